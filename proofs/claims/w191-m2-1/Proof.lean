import JvmDerived
import JvmDerived.Pilot.@@N@@Statement
import JvmDerived.Pilot.@@N@@Code
set_option linter.unusedVariables false
set_option linter.unusedSimpArgs false
@@BLOCK:NumsL.lean.txt@@
namespace Jvm.Own
open Sem ClassFile Op Lib Jvm.Stand Jvm.Free Jvm.LawKit Jvm.RoadKit
section Arrays
variable {p : Program} {l : Launch} {e : Env} {R : Room} {s : State} {m : MethodId} {args : Array Value} {below : List Frame} {meth : Method} {c : Code} {T : State} {locs : List Loc} {cells slots : Nat} {Z : State} {h h' h0 : Heap} {a b : Addr} {ty : FieldType} {vs : List Value} {xs : List Int32} {v : Value} {sl : Nat} {ws : List Addr}
/-- the array at a: of the kind ty, its components vs -/
def AV (Z : State) (h : Heap) (a : Addr) (ty : FieldType) (vs : List Value) : Prop := ∃ c : Cell, Arr Z h a c ty ∧ c.slots = vs.toArray ∧ vs.length < 2147483648
/-- an int array -/
def IA (Z : State) (h : Heap) (a : Addr) (xs : List Int32) : Prop := AV Z h a .int (xs.map Value.int)
theorem AV.lt (F : AV Z h a ty vs) : a < h.size := by obtain ⟨c, A, -⟩ := F; exact A.lt
theorem AV.ext (F : AV Z h a ty vs) (E : Ext h h') : AV Z h' a ty vs := by obtain ⟨c, A, r⟩ := F; exact ⟨c, A.ext E, r⟩
theorem AV.other (F : AV Z h b ty vs) (W : Wr h h' a sl v) (q : b ≠ a) : AV Z h' b ty vs := by obtain ⟨c, A, r⟩ := F; exact ⟨c, A.other W q, r⟩
theorem AV.keep (F : AV Z h a ty vs) (K : Keep h h' ws) (q : a ∉ ws) : AV Z h' a ty vs := by obtain ⟨c, A, r⟩ := F; exact ⟨c, ⟨K.2.1 a c A.1 q, A.2⟩, r⟩
theorem AV.wr (F : AV Z h a ty vs) (W : Wr h h' a sl v) : AV Z h' a ty (vs.set sl v) := by
  obtain ⟨c, A, q, n⟩ := F
  exact ⟨_, A.same W, by simp [Cell.setSlot, q], by simpa using n⟩
theorem clamp_lt (z : Int32) : z.toNatClampNeg < 2147483648 := by
  have := z.toInt_lt
  simp only [Int32.toNatClampNeg]; omega
theorem AV.new {k : ClassId} {z : Int32} (A : Arr Z h a (newA k ty z) ty) (q : List.replicate z.toNatClampNeg (defaultValue ty) = vs) : AV Z h a ty vs := by
  subst q
  exact ⟨_, A, by simp [newA], by rw [List.length_replicate]; exact clamp_lt z⟩
theorem IA.lt (F : IA Z h a xs) : a < h.size := AV.lt F
theorem IA.ext (F : IA Z h a xs) (E : Ext h h') : IA Z h' a xs := AV.ext F E
theorem IA.other (F : IA Z h b xs) (W : Wr h h' a sl v) (q : b ≠ a) : IA Z h' b xs := AV.other F W q
theorem IA.keep (F : IA Z h a xs) (K : Keep h h' ws) (q : a ∉ ws) : IA Z h' a xs := AV.keep F K q
theorem IA.new {k : ClassId} {z : Int32} (A : Arr Z h a (newA k .int z) .int) {n : Nat} (q : z.toNatClampNeg = n) : IA Z h a (List.replicate n (0 : Int32)) := AV.new A (by subst q; rw [List.map_replicate]; rfl)
theorem IA.wr {x : Int32} (F : IA Z h a xs) (W : Wr h h' a sl (.int x)) : IA Z h' a (xs.set sl x) := by
  have := AV.wr F W
  rw [← List.map_set] at this; exact this
/-- the place j of an int array; the array with x there -/
def gi (xs : List Int32) (j : Int32) : Int32 := xs.getD j.toNatClampNeg 0
def si (xs : List Int32) (j x : Int32) : List Int32 := xs.set j.toNatClampNeg x
theorem si_len (xs : List Int32) (j x : Int32) : (si xs j x).length = xs.length := by simp [si]
theorem clamp_of {j : Int32} {n : Nat} (hj : 0 ≤ j.toInt ∧ j.toInt < (n : Int)) : j.toNatClampNeg < n ∧ ¬ j < 0 := by
  obtain ⟨h1, h2⟩ := hj
  refine ⟨by simp only [Int32.toNatClampNeg]; omega, ?_⟩
  rw [Int32.lt_iff_toInt_lt]; show ¬ _ < (0 : Int); omega
theorem inb_of' {cl : Cell} {j : Int32} {n : Nat} (hn : cl.slots.size = n) (hj : 0 ≤ j.toInt ∧ j.toInt < (n : Int)) : ¬ (j < 0 ∨ cl.slots.size ≤ j.toNatClampNeg) := by
  obtain ⟨h1, h2⟩ := clamp_of hj
  rintro (q | q)
  · exact h2 q
  · omega
theorem ldI (X : Stand p l e R s m args below meth c T locs cells slots) (hx : p.tables.exec = Jvm.exec) (hZ : Z.Warmed39 s.vm) (eT : T.heap = h) (F : IA Z h a xs) {j : Int32} (n : Nat) (hl : xs.length = n) (hj : 0 ≤ j.toInt ∧ j.toInt < (n : Int)) {g : JFrame} (hg : g.method = m) {rest : List Value} (hs : g.stack = .int j :: .ref a :: rest) (hd : decode c.code g.pc = .ok (.iaload, 1)) :
    ∀ target, Steps p.tables e below (T.setTop { g with pc := g.pc + 1, stack := .int (gi xs j) :: rest }) target → Steps p.tables e below (T.setTop g) target := by
  obtain ⟨cl, A, q, r⟩ := F
  have hsz : cl.slots.size = n := by rw [q]; simp [hl]
  have hi := (clamp_of hj).1
  refine X.iaload hx (v := .int (gi xs j)) (by rw [eT]; exact A.1) (State.isArrayOf_alike hZ.alike A.2.1) A.2.2 (inb_of' hsz hj) ?_ hg hs hd
  rw [q]
  have : j.toNatClampNeg < xs.length := by omega
  simp [gi, List.getD_eq_getElem?_getD, this]
theorem lnV (X : Stand p l e R s m args below meth c T locs cells slots) (hx : p.tables.exec = Jvm.exec) (hZ : Z.Warmed39 s.vm) (eT : T.heap = h) (F : AV Z h a ty vs) {z : Int32} (hz : vs.length.toInt32 = z) {g : JFrame} (hg : g.method = m) {rest : List Value} (hs : g.stack = .ref a :: rest) (hd : decode c.code g.pc = .ok (.arraylength, 1)) :
    ∀ target, Steps p.tables e below (T.setTop { g with pc := g.pc + 1, stack := .int z :: rest }) target → Steps p.tables e below (T.setTop g) target := by
  obtain ⟨cl, A, q, r⟩ := F
  intro target k
  refine X.arraylength hx (by rw [eT]; exact A.1) (State.isArrayOf_alike hZ.alike A.2.1) hg hs hd _ ?_
  have : cl.slots.size.toInt32 = z := by rw [q]; simpa using hz
  rw [this]; exact k
theorem lnI (X : Stand p l e R s m args below meth c T locs cells slots) (hx : p.tables.exec = Jvm.exec) (hZ : Z.Warmed39 s.vm) (eT : T.heap = h) (F : IA Z h a xs) {z : Int32} (hz : xs.length.toInt32 = z) {g : JFrame} (hg : g.method = m) {rest : List Value} (hs : g.stack = .ref a :: rest) (hd : decode c.code g.pc = .ok (.arraylength, 1)) :
    ∀ target, Steps p.tables e below (T.setTop { g with pc := g.pc + 1, stack := .int z :: rest }) target → Steps p.tables e below (T.setTop g) target :=
  lnV X hx hZ eT F (by rw [List.length_map]; exact hz) hg hs hd
theorem stIA (X : Stand p l e R s m args below meth c T locs cells slots) (hx : p.tables.exec = Jvm.exec) (hZ : Z.Warmed39 s.vm) (eT : T.heap = h) (F : IA Z h a xs) {j x : Int32} (n : Nat) (hl : xs.length = n) (hj : 0 ≤ j.toInt ∧ j.toInt < (n : Int)) {g : JFrame} (hg : g.method = m) {rest : List Value} (hs : g.stack = .int x :: .int j :: .ref a :: rest) (hd : decode c.code g.pc = .ok (.iastore, 1)) :
    ∃ T' h', Stand p l e R s m args below meth c T' (locs ++ [⟨a, j.toNatClampNeg⟩]) cells slots ∧ T'.heap = h' ∧ Wr h h' a j.toNatClampNeg (.int x) ∧ IA Z h' a (si xs j x) ∧ ∀ target, Steps p.tables e below (T'.setTop { g with pc := g.pc + 1, stack := rest }) target → Steps p.tables e below (T.setTop g) target := by
  have F0 := F
  obtain ⟨cl, A, q, r⟩ := F
  have hsz : cl.slots.size = n := by rw [q]; simp [hl]
  obtain ⟨T', h', X', e', W, st⟩ := stI X hx hZ eT A (inb_of' hsz hj) hg hs hd
  exact ⟨T', h', X', e', W, IA.wr F0 W, st⟩
/-- a place read or written, where it lies in the array; a fresh array of at most cap places -/
def rd (xs : List Int32) (j : Int32) : Option Int32 := if 0 ≤ j.toInt ∧ j.toInt < (xs.length : Int) then some (gi xs j) else none
def wt (xs : List Int32) (j x : Int32) : Option (List Int32) := if 0 ≤ j.toInt ∧ j.toInt < (xs.length : Int) then some (si xs j x) else none
def mk (cap : Nat) (n : Int32) : Option (List Int32) := if 0 ≤ n.toInt ∧ n.toInt ≤ (cap : Int) then some (List.replicate n.toNatClampNeg 0) else none
def ln (xs : List Int32) : Int32 := xs.length.toInt32
theorem rd_some {xs : List Int32} {j v : Int32} (q : rd xs j = some v) : (0 ≤ j.toInt ∧ j.toInt < (xs.length : Int)) ∧ gi xs j = v := by
  unfold rd at q
  split at q
  · next h => exact ⟨h, Option.some.inj q⟩
  · cases q
theorem wt_some {xs ys : List Int32} {j x : Int32} (q : wt xs j x = some ys) : (0 ≤ j.toInt ∧ j.toInt < (xs.length : Int)) ∧ si xs j x = ys := by
  unfold wt at q
  split at q
  · next h => exact ⟨h, Option.some.inj q⟩
  · cases q
theorem mk_some {cap : Nat} {n : Int32} {ys : List Int32} (q : mk cap n = some ys) : ¬ n < 0 ∧ n.toNatClampNeg ≤ cap ∧ ys = List.replicate n.toNatClampNeg 0 := by
  unfold mk at q
  split at q
  · next h =>
    refine ⟨?_, ?_, (Option.some.inj q).symm⟩
    · rw [Int32.lt_iff_toInt_lt]; show ¬ _ < (0 : Int); omega
    · simp only [Int32.toNatClampNeg]; omega
  · cases q
theorem ldO (X : Stand p l e R s m args below meth c T locs cells slots) (hx : p.tables.exec = Jvm.exec) (hZ : Z.Warmed39 s.vm) (eT : T.heap = h) (F : IA Z h a xs) {j x : Int32} (q : rd xs j = some x) {g : JFrame} (hg : g.method = m) {rest : List Value} (hs : g.stack = .int j :: .ref a :: rest) (hd : decode c.code g.pc = .ok (.iaload, 1)) :
    ∀ target, Steps p.tables e below (T.setTop { g with pc := g.pc + 1, stack := .int x :: rest }) target → Steps p.tables e below (T.setTop g) target := by
  obtain ⟨hb, rfl⟩ := rd_some q
  exact ldI X hx hZ eT F xs.length rfl hb hg hs hd
theorem stO (X : Stand p l e R s m args below meth c T locs cells slots) (hx : p.tables.exec = Jvm.exec) (hZ : Z.Warmed39 s.vm) (eT : T.heap = h) (F : IA Z h a xs) {j x : Int32} {ys : List Int32} (q : wt xs j x = some ys) {g : JFrame} (hg : g.method = m) {rest : List Value} (hs : g.stack = .int x :: .int j :: .ref a :: rest) (hd : decode c.code g.pc = .ok (.iastore, 1)) :
    ∃ T' h', Stand p l e R s m args below meth c T' (locs ++ [⟨a, j.toNatClampNeg⟩]) cells slots ∧ T'.heap = h' ∧ Wr h h' a j.toNatClampNeg (.int x) ∧ IA Z h' a ys ∧ ∀ target, Steps p.tables e below (T'.setTop { g with pc := g.pc + 1, stack := rest }) target → Steps p.tables e below (T.setTop g) target := by
  obtain ⟨hb, rfl⟩ := wt_some q
  exact stIA X hx hZ eT F xs.length rfl hb hg hs hd
def lim (cap : Nat) (xs : List Int32) : Option (List Int32) := if xs.length ≤ cap then some xs else none
theorem lim_some {cap : Nat} {ys : List Int32} (q : lim cap xs = some ys) : xs.length ≤ cap ∧ ys = xs := by
  unfold lim at q
  split at q
  · next h => exact ⟨h, (Option.some.inj q).symm⟩
  · cases q
theorem IA.fit {c : Cell} (A : Arr Z h a c .int) (q : c.slots = (xs.map Value.int).toArray) : FitC Z c := fitC_of A fun i hi v hv => by
  rw [q] at hv
  simp at hv
  obtain ⟨x, -, rfl⟩ := hv
  rfl
theorem clI (X : Stand p l e R s m args below meth c T locs cells slots) (hx : p.tables.exec = Jvm.exec) (hZ : Z.Warmed39 s.vm) {a0 : Array Value} {own : String} {index : Nat} (hown : s.vm.findClass own = some m.cls)
    (w1 : (Cond.methodLink own index ⟨"[I", "clone", "()Ljava/lang/Object;"⟩).before a0 Z = true) (w2 : (Cond.sameMethod "[I" "java/lang/Object" "clone" "()Ljava/lang/Object;").before a0 Z = true) (w3 : (Cond.native ⟨"java/lang/Object", "clone", "()Ljava/lang/Object;"⟩).before a0 Z = true)
    (w4 : (Cond.instanceMethod ⟨"java/lang/Object", "clone", "()Ljava/lang/Object;"⟩).before a0 Z = true) (w5 : (Cond.selects "[I" ⟨"[I", "clone", "()Ljava/lang/Object;"⟩ ⟨"java/lang/Object", "clone", "()Ljava/lang/Object;"⟩).before a0 Z = true) (w6 : (Cond.castable "[I" "java/lang/Cloneable").before a0 Z = true)
    (eT : T.heap = h) (F : IA Z h a xs) (E : Exa Z h a "[I") {g : JFrame} (hg : g.method = m) (hsize : g.locals.size = c.maxLocals) {rest : List Value} (hs : g.stack = .ref a :: rest) (hd : decode c.code g.pc = .ok (.invokevirtual index, 3))
    (hf : 1 ≤ R.frames) {W cap : Nat} (hW : 2 * g.monitorRoom + (rest.map fun v => v.category).sum ≤ W) (hl : W + 14 ≤ R.locals) (hcap : xs.length ≤ cap) (hc : cells + 1 ≤ R.cells) (hsl : slots + cap ≤ R.slots) :
    ∃ T' h', Stand p l e R s m args below meth c T' locs (cells + 1) (slots + cap) ∧ T'.heap = h' ∧ Ext h h' ∧ IA Z h' h.size xs ∧ Exa Z h' h.size "[I" ∧
      ∀ target, Steps p.tables e below (T'.setTop { g with pc := g.pc + 3, stack := .ref h.size :: rest }) target → Steps p.tables e below (T.setTop g) target := by
  obtain ⟨cl, A, q, r⟩ := F
  have hsz : cl.slots.size = xs.length := by rw [q]; simp
  obtain ⟨T', h', X', e', E', A', EE, st⟩ := cloneA X hx hZ hown w1 w2 w3 w4 w5 w6 eT A E (IA.fit A q) hg hsize hs hd hf hW hl (by rw [hsz]; exact hcap) hc hsl
  exact ⟨T', h', X', e', E', ⟨_, A', q, r⟩, EE, st⟩
/-- a byte array -/
def BA (Z : State) (h : Heap) (a : Addr) (xs : List Int32) : Prop := AV Z h a .byte (xs.map Value.int)
theorem BA.lt (F : BA Z h a xs) : a < h.size := AV.lt F
theorem BA.ext (F : BA Z h a xs) (E : Ext h h') : BA Z h' a xs := AV.ext F E
theorem BA.other (F : BA Z h b xs) (W : Wr h h' a sl v) (q : b ≠ a) : BA Z h' b xs := AV.other F W q
theorem BA.keep (F : BA Z h a xs) (K : Keep h h' ws) (q : a ∉ ws) : BA Z h' a xs := AV.keep F K q
theorem BA.new {k : ClassId} {z : Int32} (A : Arr Z h a (newA k .byte z) .byte) {n : Nat} (q : z.toNatClampNeg = n) : BA Z h a (List.replicate n (0 : Int32)) := AV.new A (by subst q; rw [List.map_replicate]; rfl)
theorem BA.wr {x : Int32} (F : BA Z h a xs) (W : Wr h h' a sl (.int x)) : BA Z h' a (xs.set sl x) := by
  have := AV.wr F W
  rw [← List.map_set] at this; exact this
theorem ldBO (X : Stand p l e R s m args below meth c T locs cells slots) (hx : p.tables.exec = Jvm.exec) (hZ : Z.Warmed39 s.vm) (eT : T.heap = h) (F : BA Z h a xs) {j x : Int32} (q : rd xs j = some x) {g : JFrame} (hg : g.method = m) {rest : List Value} (hs : g.stack = .int j :: .ref a :: rest) (hd : decode c.code g.pc = .ok (.baload, 1)) :
    ∀ target, Steps p.tables e below (T.setTop { g with pc := g.pc + 1, stack := .int x :: rest }) target → Steps p.tables e below (T.setTop g) target := by
  obtain ⟨hj, rfl⟩ := rd_some q
  obtain ⟨cl, A, q, r⟩ := F
  have hsz : cl.slots.size = xs.length := by rw [q]; simp
  have hi := (clamp_of hj).1
  refine X.baloadBytes hx (v := .int (gi xs j)) (by rw [eT]; exact A.1) (State.isArrayOf_alike hZ.alike A.2.1) A.2.2 (inb_of' hsz hj) ?_ hg hs hd
  rw [q]
  simp [gi, List.getD_eq_getElem?_getD, hi]
theorem stBO (X : Stand p l e R s m args below meth c T locs cells slots) (hx : p.tables.exec = Jvm.exec) (hZ : Z.Warmed39 s.vm) (eT : T.heap = h) (F : BA Z h a xs) {j x : Int32} {ys : List Int32} (q : wt xs j (nar .byte x) = some ys) {g : JFrame} (hg : g.method = m) {rest : List Value} (hs : g.stack = .int x :: .int j :: .ref a :: rest) (hd : decode c.code g.pc = .ok (.bastore, 1)) :
    ∃ T' h', Stand p l e R s m args below meth c T' (locs ++ [⟨a, j.toNatClampNeg⟩]) cells slots ∧ T'.heap = h' ∧ Wr h h' a j.toNatClampNeg (.int (nar .byte x)) ∧ BA Z h' a ys ∧ ∀ target, Steps p.tables e below (T'.setTop { g with pc := g.pc + 1, stack := rest }) target → Steps p.tables e below (T.setTop g) target := by
  obtain ⟨hj, rfl⟩ := wt_some q
  have F0 := F
  obtain ⟨cl, A, q, r⟩ := F
  have hsz : cl.slots.size = xs.length := by rw [q]; simp
  obtain ⟨T', h', X', e', W, st⟩ := stB X hx hZ eT A (inb_of' hsz hj) hg hs hd
  exact ⟨T', h', X', e', W, BA.wr F0 W, st⟩
/-- an array of references to objects of the class C -/
def RA (Z : State) (h : Heap) (a : Addr) (C : String) (vs : List Value) : Prop := ∃ c : Cell, Arr Z h a c (.object C) ∧ c.slots = vs.toArray ∧ vs.length < 2147483648 ∧ Ovr Z c.cls C
variable {C : String}
theorem RA.lt (F : RA Z h a C vs) : a < h.size := by obtain ⟨c, A, -⟩ := F; exact A.lt
theorem RA.ext (F : RA Z h a C vs) (E : Ext h h') : RA Z h' a C vs := by obtain ⟨c, A, r⟩ := F; exact ⟨c, A.ext E, r⟩
theorem RA.other (F : RA Z h b C vs) (W : Wr h h' a sl v) (q : b ≠ a) : RA Z h' b C vs := by obtain ⟨c, A, r⟩ := F; exact ⟨c, A.other W q, r⟩
theorem RA.new {k : ClassId} {z : Int32} (A : Arr Z h a (newA k (.object C) z) (.object C)) (O : Ovr Z k C) (q : List.replicate z.toNatClampNeg Value.null = vs) : RA Z h a C vs := by
  subst q
  exact ⟨_, A, by simp [newA, defaultValue], by rw [List.length_replicate]; exact clamp_lt z, O⟩
theorem stRA (X : Stand p l e R s m args below meth c T locs cells slots) (hx : p.tables.exec = Jvm.exec) (hZ : Z.Warmed39 s.vm) (eT : T.heap = h) (F : RA Z h a C vs) {j : Int32} {y : Addr} (n : Nat) (hl : vs.length = n) (hj : 0 ≤ j.toInt ∧ j.toInt < (n : Int)) (I : Ins Z h y C true) {g : JFrame} (hg : g.method = m) {rest : List Value} (hs : g.stack = .ref y :: .int j :: .ref a :: rest) (hd : decode c.code g.pc = .ok (.aastore, 1)) :
    ∃ T' h', Stand p l e R s m args below meth c T' (locs ++ [⟨a, j.toNatClampNeg⟩]) cells slots ∧ T'.heap = h' ∧ Wr h h' a j.toNatClampNeg (.ref y) ∧ RA Z h' a C (vs.set j.toNatClampNeg (.ref y)) ∧ ∀ target, Steps p.tables e below (T'.setTop { g with pc := g.pc + 1, stack := rest }) target → Steps p.tables e below (T.setTop g) target := by
  obtain ⟨cl, A, q, r, O⟩ := F
  have hsz : cl.slots.size = n := by rw [q]; simp [hl]
  obtain ⟨T', h', X', e', W, st⟩ := stR X hx hZ eT A (inb_of' hsz hj) rfl (Sto.of A O I) hg hs hd
  exact ⟨T', h', X', e', W, ⟨_, A.same W, by simp [Cell.setSlot, q], by simpa using r, O⟩, st⟩
theorem ldRA (X : Stand p l e R s m args below meth c T locs cells slots) (hx : p.tables.exec = Jvm.exec) (hZ : Z.Warmed39 s.vm) (eT : T.heap = h) (F : RA Z h a C vs) {j : Int32} (n : Nat) (hl : vs.length = n) (hj : 0 ≤ j.toInt ∧ j.toInt < (n : Int)) (hv : vs[j.toNatClampNeg]? = some v) {g : JFrame} (hg : g.method = m) {rest : List Value} (hs : g.stack = .int j :: .ref a :: rest) (hd : decode c.code g.pc = .ok (.aaload, 1)) :
    ∀ target, Steps p.tables e below (T.setTop { g with pc := g.pc + 1, stack := v :: rest }) target → Steps p.tables e below (T.setTop g) target := by
  obtain ⟨cl, A, q, r, O⟩ := F
  have hsz : cl.slots.size = n := by rw [q]; simp [hl]
  exact X.aaload hx (by rw [eT]; exact A.1) (State.isArrayOf_alike hZ.alike A.2.1) rfl A.2.2 (inb_of' hsz hj) (by rw [q]; simpa using hv) hg hs hd
theorem ldAV (X : Stand p l e R s m args below meth c T locs cells slots) (hx : p.tables.exec = Jvm.exec) (hZ : Z.Warmed39 s.vm) (eT : T.heap = h) (F : AV Z h a ty vs) (hty : ty.isReference = true) {j : Int32} (n : Nat) (hl : vs.length = n) (hj : 0 ≤ j.toInt ∧ j.toInt < (n : Int)) (hv : vs[j.toNatClampNeg]? = some v) {g : JFrame} (hg : g.method = m) {rest : List Value} (hs : g.stack = .int j :: .ref a :: rest) (hd : decode c.code g.pc = .ok (.aaload, 1)) :
    ∀ target, Steps p.tables e below (T.setTop { g with pc := g.pc + 1, stack := v :: rest }) target → Steps p.tables e below (T.setTop g) target := by
  obtain ⟨cl, A, q, r⟩ := F
  have hsz : cl.slots.size = n := by rw [q]; simp [hl]
  exact X.aaload hx (by rw [eT]; exact A.1) (State.isArrayOf_alike hZ.alike A.2.1) hty A.2.2 (inb_of' hsz hj) (by rw [q]; simpa using hv) hg hs hd
def ga (as : List Addr) (j : Int32) : Addr := as.getD j.toNatClampNeg 0
theorem ga_at {as : List Addr} {j : Int32} {n : Nat} (hl : as.length = n) (hj : 0 ≤ j.toInt ∧ j.toInt < (n : Int)) : (as.map Value.ref)[j.toNatClampNeg]? = some (.ref (ga as j)) := by
  have : j.toNatClampNeg < as.length := by rw [hl]; exact (clamp_of hj).1
  simp [ga, List.getD_eq_getElem?_getD, this]
theorem ga_all {as : List Addr} {j : Int32} {n : Nat} {P : Addr → Prop} (hl : as.length = n) (hj : 0 ≤ j.toInt ∧ j.toInt < (n : Int)) (q : ∀ x ∈ as, P x) : P (ga as j) := by
  have h : j.toNatClampNeg < as.length := by rw [hl]; exact (clamp_of hj).1
  have : ga as j = as[j.toNatClampNeg] := by simp [ga, List.getD_eq_getElem?_getD, h]
  rw [this]; exact q _ (List.getElem_mem h)
theorem size_wr (W : Wr h h' a sl v) {n : Nat} (q : n ≤ h.size) : n ≤ h'.size := by rw [W.size]; exact q
end Arrays
end Jvm.Own
namespace Jvm.Own
open Sem ClassFile Op Lib Jvm.Stand Jvm.Free Jvm.LawKit Jvm.RoadKit
section Doubles
variable {p : Program} {l : Launch} {e : Env} {R : Room} {s : State} {m : MethodId} {args : Array Value} {below : List Frame} {meth : Method} {c : Code} {T : State} {locs : List Loc} {cells slots : Nat} {Z : State} {h h' h0 : Heap} {a b : Addr} {ty : FieldType} {vs : List Value} {xs : List UInt64} {zs : List Int32} {v : Value} {sl : Nat} {ws : List Addr}
/-- an array of doubles, of booleans -/
def DA (Z : State) (h : Heap) (a : Addr) (xs : List UInt64) : Prop := AV Z h a .double (xs.map Value.double)
def ZA (Z : State) (h : Heap) (a : Addr) (xs : List Int32) : Prop := AV Z h a .boolean (xs.map Value.int)
theorem DA.lt (F : DA Z h a xs) : a < h.size := AV.lt F
theorem DA.ext (F : DA Z h a xs) (E : Ext h h') : DA Z h' a xs := AV.ext F E
theorem DA.other (F : DA Z h b xs) (W : Wr h h' a sl v) (q : b ≠ a) : DA Z h' b xs := AV.other F W q
theorem DA.keep (F : DA Z h a xs) (K : Keep h h' ws) (q : a ∉ ws) : DA Z h' a xs := AV.keep F K q
theorem DA.new {k : ClassId} {z : Int32} (A : Arr Z h a (newA k .double z) .double) {n : Nat} (q : z.toNatClampNeg = n) : DA Z h a (List.replicate n (0 : UInt64)) := AV.new A (by subst q; rw [List.map_replicate]; rfl)
theorem DA.wr {x : UInt64} (F : DA Z h a xs) (W : Wr h h' a sl (.double x)) : DA Z h' a (xs.set sl x) := by
  have := AV.wr F W
  rw [← List.map_set] at this; exact this
theorem ZA.lt (F : ZA Z h a zs) : a < h.size := AV.lt F
theorem ZA.ext (F : ZA Z h a zs) (E : Ext h h') : ZA Z h' a zs := AV.ext F E
theorem ZA.other (F : ZA Z h b zs) (W : Wr h h' a sl v) (q : b ≠ a) : ZA Z h' b zs := AV.other F W q
theorem ZA.keep (F : ZA Z h a zs) (K : Keep h h' ws) (q : a ∉ ws) : ZA Z h' a zs := AV.keep F K q
theorem ZA.new {k : ClassId} {z : Int32} (A : Arr Z h a (newA k .boolean z) .boolean) {n : Nat} (q : z.toNatClampNeg = n) : ZA Z h a (List.replicate n (0 : Int32)) := AV.new A (by subst q; rw [List.map_replicate]; rfl)
theorem ZA.wr {x : Int32} (F : ZA Z h a zs) (W : Wr h h' a sl (.int x)) : ZA Z h' a (zs.set sl x) := by
  have := AV.wr F W
  rw [← List.map_set] at this; exact this
def rdD (xs : List UInt64) (j : Int32) : Option UInt64 := if 0 ≤ j.toInt ∧ j.toInt < (xs.length : Int) then some (xs.getD j.toNatClampNeg 0) else none
def wtD (xs : List UInt64) (j : Int32) (x : UInt64) : Option (List UInt64) := if 0 ≤ j.toInt ∧ j.toInt < (xs.length : Int) then some (xs.set j.toNatClampNeg x) else none
def lnD (xs : List UInt64) : Int32 := xs.length.toInt32
def mkD (cap : Nat) (n : Int32) : Option (List UInt64) := if 0 ≤ n.toInt ∧ n.toInt ≤ (cap : Int) then some (List.replicate n.toNatClampNeg 0) else none
theorem rdD_some {j : Int32} {x : UInt64} (q : rdD xs j = some x) : (0 ≤ j.toInt ∧ j.toInt < (xs.length : Int)) ∧ xs.getD j.toNatClampNeg 0 = x := by
  unfold rdD at q
  split at q
  · next h => exact ⟨h, Option.some.inj q⟩
  · cases q
theorem wtD_some {ys : List UInt64} {j : Int32} {x : UInt64} (q : wtD xs j x = some ys) : (0 ≤ j.toInt ∧ j.toInt < (xs.length : Int)) ∧ xs.set j.toNatClampNeg x = ys := by
  unfold wtD at q
  split at q
  · next h => exact ⟨h, Option.some.inj q⟩
  · cases q
theorem mkD_some {cap : Nat} {n : Int32} {ys : List UInt64} (q : mkD cap n = some ys) : ¬ n < 0 ∧ n.toNatClampNeg ≤ cap ∧ ys = List.replicate n.toNatClampNeg 0 := by
  unfold mkD at q
  split at q
  · next h =>
    refine ⟨?_, ?_, (Option.some.inj q).symm⟩
    · rw [Int32.lt_iff_toInt_lt]; show ¬ _ < (0 : Int); omega
    · simp only [Int32.toNatClampNeg]; omega
  · cases q
theorem ldDO (X : Stand p l e R s m args below meth c T locs cells slots) (hx : p.tables.exec = Jvm.exec) (hZ : Z.Warmed39 s.vm) (eT : T.heap = h) (F : DA Z h a xs) {j : Int32} {x : UInt64} (q : rdD xs j = some x) {g : JFrame} (hg : g.method = m) {rest : List Value} (hs : g.stack = .int j :: .ref a :: rest) (hd : decode c.code g.pc = .ok (.daload, 1)) :
    ∀ target, Steps p.tables e below (T.setTop { g with pc := g.pc + 1, stack := .double x :: rest }) target → Steps p.tables e below (T.setTop g) target := by
  obtain ⟨hj, rfl⟩ := rdD_some q
  obtain ⟨cl, A, q, r⟩ := F
  have hsz : cl.slots.size = xs.length := by rw [q]; simp
  have hi := (clamp_of hj).1
  refine X.daload hx (v := .double (xs.getD j.toNatClampNeg 0)) (by rw [eT]; exact A.1) (State.isArrayOf_alike hZ.alike A.2.1) A.2.2 (inb_of' hsz hj) ?_ hg hs hd
  rw [q]
  simp [List.getD_eq_getElem?_getD, hi]
theorem stDO (X : Stand p l e R s m args below meth c T locs cells slots) (hx : p.tables.exec = Jvm.exec) (hZ : Z.Warmed39 s.vm) (eT : T.heap = h) (F : DA Z h a xs) {j : Int32} {x : UInt64} {ys : List UInt64} (q : wtD xs j x = some ys) {g : JFrame} (hg : g.method = m) {rest : List Value} (hs : g.stack = .double x :: .int j :: .ref a :: rest) (hd : decode c.code g.pc = .ok (.dastore, 1)) :
    ∃ T' h', Stand p l e R s m args below meth c T' (locs ++ [⟨a, j.toNatClampNeg⟩]) cells slots ∧ T'.heap = h' ∧ Wr h h' a j.toNatClampNeg (.double x) ∧ DA Z h' a ys ∧ ∀ target, Steps p.tables e below (T'.setTop { g with pc := g.pc + 1, stack := rest }) target → Steps p.tables e below (T.setTop g) target := by
  obtain ⟨hj, rfl⟩ := wtD_some q
  have F0 := F
  obtain ⟨cl, A, q, r⟩ := F
  have hsz : cl.slots.size = xs.length := by rw [q]; simp
  obtain ⟨T', h', X', e', W, st⟩ := stD X hx hZ eT A (inb_of' hsz hj) hg hs hd
  exact ⟨T', h', X', e', W, DA.wr F0 W, st⟩
theorem ldZO (X : Stand p l e R s m args below meth c T locs cells slots) (hx : p.tables.exec = Jvm.exec) (hZ : Z.Warmed39 s.vm) (eT : T.heap = h) (F : ZA Z h a zs) {j x : Int32} (q : rd zs j = some x) {g : JFrame} (hg : g.method = m) {rest : List Value} (hs : g.stack = .int j :: .ref a :: rest) (hd : decode c.code g.pc = .ok (.baload, 1)) :
    ∀ target, Steps p.tables e below (T.setTop { g with pc := g.pc + 1, stack := .int x :: rest }) target → Steps p.tables e below (T.setTop g) target := by
  obtain ⟨hj, rfl⟩ := rd_some q
  obtain ⟨cl, A, q, r⟩ := F
  have hsz : cl.slots.size = zs.length := by rw [q]; simp
  have hi := (clamp_of hj).1
  refine X.baloadBooleans hx (v := .int (gi zs j)) (by rw [eT]; exact A.1) (State.isArrayOf_alike hZ.alike A.2.1) A.2.2 (inb_of' hsz hj) ?_ hg hs hd
  rw [q]
  simp [gi, List.getD_eq_getElem?_getD, hi]
theorem stZO (X : Stand p l e R s m args below meth c T locs cells slots) (hx : p.tables.exec = Jvm.exec) (hZ : Z.Warmed39 s.vm) (eT : T.heap = h) (F : ZA Z h a zs) {j x : Int32} {ys : List Int32} (q : wt zs j (nar .boolean x) = some ys) {g : JFrame} (hg : g.method = m) {rest : List Value} (hs : g.stack = .int x :: .int j :: .ref a :: rest) (hd : decode c.code g.pc = .ok (.bastore, 1)) :
    ∃ T' h', Stand p l e R s m args below meth c T' (locs ++ [⟨a, j.toNatClampNeg⟩]) cells slots ∧ T'.heap = h' ∧ Wr h h' a j.toNatClampNeg (.int (nar .boolean x)) ∧ ZA Z h' a ys ∧ ∀ target, Steps p.tables e below (T'.setTop { g with pc := g.pc + 1, stack := rest }) target → Steps p.tables e below (T.setTop g) target := by
  obtain ⟨hj, rfl⟩ := wt_some q
  have F0 := F
  obtain ⟨cl, A, q, r⟩ := F
  have hsz : cl.slots.size = zs.length := by rw [q]; simp
  obtain ⟨T', h', X', e', W, st⟩ := stZ X hx hZ eT A (inb_of' hsz hj) hg hs hd
  exact ⟨T', h', X', e', W, ZA.wr F0 W, st⟩
end Doubles
end Jvm.Own
namespace Jvm.RoadKit
open Sem ClassFile Op Lib Jvm.Stand Jvm.Free Jvm.LawKit
section New
variable {p : Program} {l : Launch} {e : Env} {R : Room} {s : State} {m : MethodId} {args : Array Value} {below : List Frame} {meth : Method} {c : Code} {T : State} {locs : List Loc} {cells slots : Nat}
theorem retI (X : Stand p l e R s m args below meth c T locs cells slots) (hx : p.tables.exec = Jvm.exec) {pc : Nat} {Ls : Array Slot} {z : Int32} {rest : List Value} (hret : meth.sig.returnType = some .int) (hd : decode c.code pc = .ok (.ireturn, 1)) {fs : List Frame}
    (hl : ∀ (f : JFrame) (acts : List Action), f.method = m → f.locked = none → f.entered = [] → (doReturn e (T.setTop f) acts (some (.int z))).1 = T.setFrames fs) : Steps p.tables e below (T.setTop (mkF m pc Ls (.int z :: rest))) (T.setFrames fs) := by
  have hm' : T.vm.method? m = some meth := X.method'
  have hn : narrow .int (.int z) = .int z := rfl
  show Steps p.tables e below (T.setTop { method := m, pc := pc, locals := Ls, stack := _ :: rest, locked := none }) _
  jvm_step X.here [X.here.top, hx, hd, hm', hret, hn]
  first | (intro acts; rw [hl _ acts rfl rfl rfl]) | rw [hl _ _ rfl rfl rfl]
  exact Steps.refl _
theorem retA (X : Stand p l e R s m args below meth c T locs cells slots) (hx : p.tables.exec = Jvm.exec) {pc : Nat} {Ls : Array Slot} {z : Value} {t : FieldType} {rest : List Value} (hret : meth.sig.returnType = some t) (ht : t.isReference = true) (hz : z.isRef = true) (hd : decode c.code pc = .ok (.areturn, 1)) {fs : List Frame}
    (hl : ∀ (f : JFrame) (acts : List Action), f.method = m → f.locked = none → f.entered = [] → (doReturn e (T.setTop f) acts (some z)).1 = T.setFrames fs) : Steps p.tables e below (T.setTop (mkF m pc Ls (z :: rest))) (T.setFrames fs) := by
  have hm' : T.vm.method? m = some meth := X.method'
  show Steps p.tables e below (T.setTop { method := m, pc := pc, locals := Ls, stack := _ :: rest, locked := none }) _
  jvm_step X.here [X.here.top, hx, hd, hm', hret, ht, hz]
  first | (intro acts; rw [hl _ acts rfl rfl rfl]) | rw [hl _ _ rfl rfl rfl]
  exact Steps.refl _
end New
end Jvm.RoadKit
namespace Jvm.Pilot.@@N@@
open Jvm Jvm.ClassFile Sem Op Lib Jvm.Free Jvm.Stand Jvm.LawKit Jvm.RoadKit Bundle Jvm.Pilot.@@N@@.Jvm.D
theorem own_tsw {x : Int32} {k : Int} (h : ¬ x = Int32.ofInt k) (h1 : -2147483648 ≤ k) (h2 : k < 2147483648) : x.toInt ≠ k := fun q => h (by rw [← q]; exact (Int32.ofInt_toInt x).symm)
theorem d1_19 : decode prog_31_method_9_code 19 = .ok (.iload 5, 2) := by decide +kernel
theorem d1_21 : decode prog_31_method_9_code 21 = .ok (.aload_n 0, 1) := by decide +kernel
theorem d1_22 : decode prog_31_method_9_code 22 = .ok (.arraylength, 1) := by decide +kernel
theorem d1_23 : decode prog_31_method_9_code 23 = .ok (.if_icmp .ge 46, 3) := by decide +kernel
theorem d1_26 : decode prog_31_method_9_code 26 = .ok (.aload_n 3, 1) := by decide +kernel
theorem d1_27 : decode prog_31_method_9_code 27 = .ok (.aload_n 0, 1) := by decide +kernel
theorem d1_28 : decode prog_31_method_9_code 28 = .ok (.iload 5, 2) := by decide +kernel
theorem d1_30 : decode prog_31_method_9_code 30 = .ok (.iaload, 1) := by decide +kernel
theorem d1_31 : decode prog_31_method_9_code 31 = .ok (.baload, 1) := by decide +kernel
theorem d1_32 : decode prog_31_method_9_code 32 = .ok (.ifCond .ne 20, 3) := by decide +kernel
theorem d1_35 : decode prog_31_method_9_code 35 = .ok (.aload_n 3, 1) := by decide +kernel
theorem d1_36 : decode prog_31_method_9_code 36 = .ok (.aload_n 0, 1) := by decide +kernel
theorem d1_37 : decode prog_31_method_9_code 37 = .ok (.iload 5, 2) := by decide +kernel
theorem d1_39 : decode prog_31_method_9_code 39 = .ok (.iaload, 1) := by decide +kernel
theorem d1_40 : decode prog_31_method_9_code 40 = .ok (.iconst 1, 1) := by decide +kernel
theorem d1_41 : decode prog_31_method_9_code 41 = .ok (.bastore, 1) := by decide +kernel
theorem d1_42 : decode prog_31_method_9_code 42 = .ok (.aload_n 2, 1) := by decide +kernel
theorem d1_43 : decode prog_31_method_9_code 43 = .ok (.aload_n 0, 1) := by decide +kernel
theorem d1_44 : decode prog_31_method_9_code 44 = .ok (.iload 5, 2) := by decide +kernel
theorem d1_46 : decode prog_31_method_9_code 46 = .ok (.iaload, 1) := by decide +kernel
theorem d1_47 : decode prog_31_method_9_code 47 = .ok (.aload_n 1, 1) := by decide +kernel
theorem d1_48 : decode prog_31_method_9_code 48 = .ok (.iload 5, 2) := by decide +kernel
theorem d1_50 : decode prog_31_method_9_code 50 = .ok (.daload, 1) := by decide +kernel
theorem d1_51 : decode prog_31_method_9_code 51 = .ok (.dastore, 1) := by decide +kernel
theorem d1_52 : decode prog_31_method_9_code 52 = .ok (.aload 4, 2) := by decide +kernel
theorem d1_54 : decode prog_31_method_9_code 54 = .ok (.iload 5, 2) := by decide +kernel
theorem d1_56 : decode prog_31_method_9_code 56 = .ok (.aload_n 2, 1) := by decide +kernel
theorem d1_57 : decode prog_31_method_9_code 57 = .ok (.aload_n 0, 1) := by decide +kernel
theorem d1_58 : decode prog_31_method_9_code 58 = .ok (.iload 5, 2) := by decide +kernel
theorem d1_60 : decode prog_31_method_9_code 60 = .ok (.iaload, 1) := by decide +kernel
theorem d1_61 : decode prog_31_method_9_code 61 = .ok (.daload, 1) := by decide +kernel
theorem d1_62 : decode prog_31_method_9_code 62 = .ok (.dastore, 1) := by decide +kernel
theorem d1_63 : decode prog_31_method_9_code 63 = .ok (.iinc 5 1, 3) := by decide +kernel
theorem d1_66 : decode prog_31_method_9_code 66 = .ok (.goto (-47), 3) := by decide +kernel
def M_lpA : Nat → List Int32 → List UInt64 → Int32 → List UInt64 → List Int32 → List UInt64 → Option (Int32 × List UInt64 × List Int32 × List UInt64)
  | 0, _, _, _, _, _, _ => none
  | k + 1, xr, xv, i, xa, xb, xc => (if i < (Own.ln xr) then (Own.rd xr i).bind fun v6 => (Own.rd xb v6).bind fun v8 => (if v8 = (0 : Int32) then (Own.rd xr i).bind fun v14 => (Own.wt xb v14 (nar .boolean (1 : Int32))).bind fun y17 => (Own.rd xr i).bind fun v21 => (Own.rdD xv i).bind fun v24 => (Own.wtD xa v21 v24).bind fun y26 => (Own.rd xr i).bind fun v30 => (Own.rdD y26 v30).bind fun v32 => (Own.wtD xc i v32).bind fun y34 => M_lpA k xr xv (i + (1 : Int32)) y26 y17 y34 else (Own.rd xr i).bind fun v40 => (Own.rdD xa v40).bind fun v42 => (Own.wtD xc i v42).bind fun y44 => M_lpA k xr xv (i + (1 : Int32)) xa xb y44) else some (i, xa, xb, xc))
theorem M_lpA_s (k : Nat) (xr : List Int32) (xv : List UInt64) (i : Int32) (xa : List UInt64) (xb : List Int32) (xc : List UInt64) : M_lpA (k + 1) xr xv i xa xb xc = (if i < (Own.ln xr) then (Own.rd xr i).bind fun v6 => (Own.rd xb v6).bind fun v8 => (if v8 = (0 : Int32) then (Own.rd xr i).bind fun v14 => (Own.wt xb v14 (nar .boolean (1 : Int32))).bind fun y17 => (Own.rd xr i).bind fun v21 => (Own.rdD xv i).bind fun v24 => (Own.wtD xa v21 v24).bind fun y26 => (Own.rd xr i).bind fun v30 => (Own.rdD y26 v30).bind fun v32 => (Own.wtD xc i v32).bind fun y34 => M_lpA k xr xv (i + (1 : Int32)) y26 y17 y34 else (Own.rd xr i).bind fun v40 => (Own.rdD xa v40).bind fun v42 => (Own.wtD xc i v42).bind fun y44 => M_lpA k xr xv (i + (1 : Int32)) xa xb y44) else some (i, xa, xb, xc)) := rfl
set_option maxRecDepth 65536 in
set_option maxHeartbeats 40000000 in
theorem lpA {p : Program} {l : Launch} {e : Env} {R : Room} {s : State} {m : MethodId} {args : Array Value} {below : List Frame} {meth : Method} {c : Code} {Z : State} {a0 : Array Value} {n0 cells slots : Nat} (hx : p.tables.exec = Jvm.exec) (hZ : Z.Warmed39 s.vm) (hw : ∀ d ∈ tables_1, d.before a0 Z = true) (hby : c.code = prog_31_method_9_code) (hml : c.maxLocals = 6) (hown : s.vm.findClass "com/example/pareto_workflow_scheduler/paretoworkflowscheduler/algorithm/ReferencePoints" = some m.cls) (o0 o1 a2 a3 a4 : Addr) (xr : List Int32) (xv : List UInt64) (ge_a2 : n0 ≤ a2) (ge_a3 : n0 ≤ a3) (ge_a4 : n0 ≤ a4) (ne_o0_a2 : o0 ≠ a2) (ne_o0_a3 : o0 ≠ a3) (ne_o0_a4 : o0 ≠ a4) (ne_o1_a2 : o1 ≠ a2) (ne_o1_a3 : o1 ≠ a3) (ne_o1_a4 : o1 ≠ a4) (ne_a2_a3 : a2 ≠ a3) (ne_a2_a4 : a2 ≠ a4) (ne_a3_a4 : a3 ≠ a4) (k : Nat) : ∀ {T0 : State} {locs : List Loc} {h0 : Heap} (i : Int32) (xa : List UInt64) (xb : List Int32) (xc : List UInt64)  (out : Int32 × List UInt64 × List Int32 × List UInt64) (hM : M_lpA k xr xv i xa xb xc = some out) (X0 : Stand p l e R s m args below meth c T0 locs cells slots) (e0 : T0.heap = h0) (N0 : Fr n0 locs) (Z0 : n0 ≤ h0.size)  (I_o0 : Own.IA Z h0 o0 xr) (I_o1 : Own.DA Z h0 o1 xv) (I_a2 : Own.DA Z h0 a2 xa) (I_a3 : Own.ZA Z h0 a3 xb) (I_a4 : Own.DA Z h0 a4 xc),
    ∃ (T' : State) (locs' : List Loc) (h' : Heap) , Stand p l e R s m args below meth c T' locs' cells slots ∧ T'.heap = h' ∧ Fr n0 locs' ∧ n0 ≤ h'.size ∧ Keep h0 h' [a2, a3, a4] ∧ Own.DA Z h' a2 out.2.1 ∧ Own.ZA Z h' a3 out.2.2.1 ∧ Own.DA Z h' a4 out.2.2.2 ∧ Steps p.tables e below (T0.setTop (mkF m 19 #[.val (.ref o0), .val (.ref o1), .val (.ref a2), .val (.ref a3), .val (.ref a4), .val (.int i)] [])) (T'.setTop (mkF m 69 #[.val (.ref o0), .val (.ref o1), .val (.ref a2), .val (.ref a3), .val (.ref a4), .val (.int out.1)] [])) := by
  induction k with
  | zero => intro T0 locs h0 i xa xb xc out hM X0 e0 N0 Z0 I_o0 I_o1 I_a2 I_a3 I_a4; cases hM
  | succ k ih =>
    intro T0 locs h0 i xa xb xc out hM X0 e0 N0 Z0 I_o0 I_o1 I_a2 I_a3 I_a4
    rw [M_lpA_s] at hM
    have q0 : Steps p.tables e below (T0.setTop (mkF m 19 #[.val (.ref o0), .val (.ref o1), .val (.ref a2), .val (.ref a3), .val (.ref a4), .val (.int i)] [])) (T0.setTop (mkF m 19 #[.val (.ref o0), .val (.ref o1), .val (.ref a2), .val (.ref a3), .val (.ref a4), .val (.int i)] [])) := Steps.refl _
    have K0 : Keep h0 h0 [a2, a3, a4] := Keep.refl _ _
    have q1 : Steps p.tables e below (T0.setTop (mkF m 19 #[.val (.ref o0), .val (.ref o1), .val (.ref a2), .val (.ref a3), .val (.ref a4), .val (.int i)] [])) (T0.setTop (mkF m 23 #[.val (.ref o0), .val (.ref o1), .val (.ref a2), .val (.ref a3), .val (.ref a4), .val (.int i)] [(.int (Own.ln xr)), (.int i)])) := q0.trans (by
        show Steps p.tables e below (T0.setTop (mkF m 19 #[.val (.ref o0), .val (.ref o1), .val (.ref a2), .val (.ref a3), .val (.ref a4), .val (.int i)] [])) _
        refine XS.iload X0.here hx rfl (hb hby d1_19) rfl ?_
        show Steps p.tables e below (T0.setTop (mkF m 21 #[.val (.ref o0), .val (.ref o1), .val (.ref a2), .val (.ref a3), .val (.ref a4), .val (.int i)] [(.int i)])) _
        refine XS.aloadN X0.here hx rfl (hb hby d1_21) rfl rfl ?_
        show Steps p.tables e below (T0.setTop (mkF m 22 #[.val (.ref o0), .val (.ref o1), .val (.ref a2), .val (.ref a3), .val (.ref a4), .val (.int i)] [(.ref o0), (.int i)])) _
        refine Own.lnV X0 hx hZ e0 I_o0 (z := Own.ln xr) (by rw [List.length_map]; rfl) (g := (mkF m 22 #[.val (.ref o0), .val (.ref o1), .val (.ref a2), .val (.ref a3), .val (.ref a4), .val (.int i)] [(.ref o0), (.int i)])) rfl rfl (hb hby d1_22) _ ?_
        show Steps p.tables e below (T0.setTop (mkF m 23 #[.val (.ref o0), .val (.ref o1), .val (.ref a2), .val (.ref a3), .val (.ref a4), .val (.int i)] [(.int (Own.ln xr)), (.int i)])) _
        exact Steps.refl _)
    by_cases hc3 : i < (Own.ln xr)
    · rw [if_pos hc3] at hM
      have q4 : Steps p.tables e below (T0.setTop (mkF m 19 #[.val (.ref o0), .val (.ref o1), .val (.ref a2), .val (.ref a3), .val (.ref a4), .val (.int i)] [])) (T0.setTop (mkF m 26 #[.val (.ref o0), .val (.ref o1), .val (.ref a2), .val (.ref a3), .val (.ref a4), .val (.int i)] [])) := q1.trans (by
          show Steps p.tables e below (T0.setTop (mkF m 23 #[.val (.ref o0), .val (.ref o1), .val (.ref a2), .val (.ref a3), .val (.ref a4), .val (.int i)] [(.int (Own.ln xr)), (.int i)])) _
          refine XS.icmpNo X0.here hx rfl (hb hby d1_23) rfl (tlt hc3).2.1 ?_
          show Steps p.tables e below (T0.setTop (mkF m 26 #[.val (.ref o0), .val (.ref o1), .val (.ref a2), .val (.ref a3), .val (.ref a4), .val (.int i)] [])) _
          exact Steps.refl _)
      have q5 : Steps p.tables e below (T0.setTop (mkF m 19 #[.val (.ref o0), .val (.ref o1), .val (.ref a2), .val (.ref a3), .val (.ref a4), .val (.int i)] [])) (T0.setTop (mkF m 30 #[.val (.ref o0), .val (.ref o1), .val (.ref a2), .val (.ref a3), .val (.ref a4), .val (.int i)] [(.int i), (.ref o0), (.ref a3)])) := q4.trans (by
          show Steps p.tables e below (T0.setTop (mkF m 26 #[.val (.ref o0), .val (.ref o1), .val (.ref a2), .val (.ref a3), .val (.ref a4), .val (.int i)] [])) _
          refine XS.aloadN X0.here hx rfl (hb hby d1_26) rfl rfl ?_
          show Steps p.tables e below (T0.setTop (mkF m 27 #[.val (.ref o0), .val (.ref o1), .val (.ref a2), .val (.ref a3), .val (.ref a4), .val (.int i)] [(.ref a3)])) _
          refine XS.aloadN X0.here hx rfl (hb hby d1_27) rfl rfl ?_
          show Steps p.tables e below (T0.setTop (mkF m 28 #[.val (.ref o0), .val (.ref o1), .val (.ref a2), .val (.ref a3), .val (.ref a4), .val (.int i)] [(.ref o0), (.ref a3)])) _
          refine XS.iload X0.here hx rfl (hb hby d1_28) rfl ?_
          show Steps p.tables e below (T0.setTop (mkF m 30 #[.val (.ref o0), .val (.ref o1), .val (.ref a2), .val (.ref a3), .val (.ref a4), .val (.int i)] [(.int i), (.ref o0), (.ref a3)])) _
          exact Steps.refl _)
      obtain ⟨v6, hv6, hM⟩ := Option.bind_eq_some_iff.mp hM
      have q7 : Steps p.tables e below (T0.setTop (mkF m 19 #[.val (.ref o0), .val (.ref o1), .val (.ref a2), .val (.ref a3), .val (.ref a4), .val (.int i)] [])) (T0.setTop (mkF m 31 #[.val (.ref o0), .val (.ref o1), .val (.ref a2), .val (.ref a3), .val (.ref a4), .val (.int i)] [(.int v6), (.ref a3)])) := q5.trans (Own.ldO X0 hx hZ e0 I_o0 hv6 (g := (mkF m 30 #[.val (.ref o0), .val (.ref o1), .val (.ref a2), .val (.ref a3), .val (.ref a4), .val (.int i)] [(.int i), (.ref o0), (.ref a3)])) rfl rfl (hb hby d1_30) _ (Steps.refl _))
      obtain ⟨v8, hv8, hM⟩ := Option.bind_eq_some_iff.mp hM
      have q9 : Steps p.tables e below (T0.setTop (mkF m 19 #[.val (.ref o0), .val (.ref o1), .val (.ref a2), .val (.ref a3), .val (.ref a4), .val (.int i)] [])) (T0.setTop (mkF m 32 #[.val (.ref o0), .val (.ref o1), .val (.ref a2), .val (.ref a3), .val (.ref a4), .val (.int i)] [(.int v8)])) := q7.trans (Own.ldZO X0 hx hZ e0 I_a3 hv8 (g := (mkF m 31 #[.val (.ref o0), .val (.ref o1), .val (.ref a2), .val (.ref a3), .val (.ref a4), .val (.int i)] [(.int v6), (.ref a3)])) rfl rfl (hb hby d1_31) _ (Steps.refl _))
      by_cases hc11 : v8 = (0 : Int32)
      · rw [if_pos hc11] at hM
        have q12 : Steps p.tables e below (T0.setTop (mkF m 19 #[.val (.ref o0), .val (.ref o1), .val (.ref a2), .val (.ref a3), .val (.ref a4), .val (.int i)] [])) (T0.setTop (mkF m 35 #[.val (.ref o0), .val (.ref o1), .val (.ref a2), .val (.ref a3), .val (.ref a4), .val (.int i)] [])) := q9.trans (by
            show Steps p.tables e below (T0.setTop (mkF m 32 #[.val (.ref o0), .val (.ref o1), .val (.ref a2), .val (.ref a3), .val (.ref a4), .val (.int i)] [(.int v8)])) _
            refine XS.ifNo X0.here hx rfl (hb hby d1_32) rfl ((if0 _ _).trans (teq hc11).2) ?_
            show Steps p.tables e below (T0.setTop (mkF m 35 #[.val (.ref o0), .val (.ref o1), .val (.ref a2), .val (.ref a3), .val (.ref a4), .val (.int i)] [])) _
            exact Steps.refl _)
        have q13 : Steps p.tables e below (T0.setTop (mkF m 19 #[.val (.ref o0), .val (.ref o1), .val (.ref a2), .val (.ref a3), .val (.ref a4), .val (.int i)] [])) (T0.setTop (mkF m 39 #[.val (.ref o0), .val (.ref o1), .val (.ref a2), .val (.ref a3), .val (.ref a4), .val (.int i)] [(.int i), (.ref o0), (.ref a3)])) := q12.trans (by
            show Steps p.tables e below (T0.setTop (mkF m 35 #[.val (.ref o0), .val (.ref o1), .val (.ref a2), .val (.ref a3), .val (.ref a4), .val (.int i)] [])) _
            refine XS.aloadN X0.here hx rfl (hb hby d1_35) rfl rfl ?_
            show Steps p.tables e below (T0.setTop (mkF m 36 #[.val (.ref o0), .val (.ref o1), .val (.ref a2), .val (.ref a3), .val (.ref a4), .val (.int i)] [(.ref a3)])) _
            refine XS.aloadN X0.here hx rfl (hb hby d1_36) rfl rfl ?_
            show Steps p.tables e below (T0.setTop (mkF m 37 #[.val (.ref o0), .val (.ref o1), .val (.ref a2), .val (.ref a3), .val (.ref a4), .val (.int i)] [(.ref o0), (.ref a3)])) _
            refine XS.iload X0.here hx rfl (hb hby d1_37) rfl ?_
            show Steps p.tables e below (T0.setTop (mkF m 39 #[.val (.ref o0), .val (.ref o1), .val (.ref a2), .val (.ref a3), .val (.ref a4), .val (.int i)] [(.int i), (.ref o0), (.ref a3)])) _
            exact Steps.refl _)
        obtain ⟨v14, hv14, hM⟩ := Option.bind_eq_some_iff.mp hM
        have q15 : Steps p.tables e below (T0.setTop (mkF m 19 #[.val (.ref o0), .val (.ref o1), .val (.ref a2), .val (.ref a3), .val (.ref a4), .val (.int i)] [])) (T0.setTop (mkF m 40 #[.val (.ref o0), .val (.ref o1), .val (.ref a2), .val (.ref a3), .val (.ref a4), .val (.int i)] [(.int v14), (.ref a3)])) := q13.trans (Own.ldO X0 hx hZ e0 I_o0 hv14 (g := (mkF m 39 #[.val (.ref o0), .val (.ref o1), .val (.ref a2), .val (.ref a3), .val (.ref a4), .val (.int i)] [(.int i), (.ref o0), (.ref a3)])) rfl rfl (hb hby d1_39) _ (Steps.refl _))
        have q16 : Steps p.tables e below (T0.setTop (mkF m 19 #[.val (.ref o0), .val (.ref o1), .val (.ref a2), .val (.ref a3), .val (.ref a4), .val (.int i)] [])) (T0.setTop (mkF m 41 #[.val (.ref o0), .val (.ref o1), .val (.ref a2), .val (.ref a3), .val (.ref a4), .val (.int i)] [(.int (1 : Int32)), (.int v14), (.ref a3)])) := q15.trans (by
            show Steps p.tables e below (T0.setTop (mkF m 40 #[.val (.ref o0), .val (.ref o1), .val (.ref a2), .val (.ref a3), .val (.ref a4), .val (.int i)] [(.int v14), (.ref a3)])) _
            refine XS.iconst X0.here hx rfl (hb hby d1_40) ?_
            show Steps p.tables e below (T0.setTop (mkF m 41 #[.val (.ref o0), .val (.ref o1), .val (.ref a2), .val (.ref a3), .val (.ref a4), .val (.int i)] [(.int (1 : Int32)), (.int v14), (.ref a3)])) _
            exact Steps.refl _)
        obtain ⟨y17, hy17, hM⟩ := Option.bind_eq_some_iff.mp hM
        obtain ⟨T18, h18, X18, e18, W18, J18, st18⟩ := Own.stZO X0 hx hZ e0 I_a3 hy17 (g := (mkF m 41 #[.val (.ref o0), .val (.ref o1), .val (.ref a2), .val (.ref a3), .val (.ref a4), .val (.int i)] [(.int (1 : Int32)), (.int v14), (.ref a3)])) rfl rfl (hb hby d1_41)
        have N18 := Fr.snoc X18 N0 ge_a3
        have Io0_18 := I_o0.other W18 ne_o0_a3
        have Io1_18 := I_o1.other W18 ne_o1_a3
        have Ia2_18 := I_a2.other W18 ne_a2_a3
        have Ia4_18 := I_a4.other W18 (Ne.symm ne_a3_a4)
        have Z18 : n0 ≤ h18.size := Own.size_wr W18 Z0
        have K18 : Keep h0 h18 [a2, a3, a4] := K0.wr W18 (Or.inl (List.mem_of_getElem? (i := 1) rfl))
        have q19 : Steps p.tables e below (T0.setTop (mkF m 19 #[.val (.ref o0), .val (.ref o1), .val (.ref a2), .val (.ref a3), .val (.ref a4), .val (.int i)] [])) (T18.setTop (mkF m 42 #[.val (.ref o0), .val (.ref o1), .val (.ref a2), .val (.ref a3), .val (.ref a4), .val (.int i)] [])) := q16.trans (st18 _ (Steps.refl _))
        have q20 : Steps p.tables e below (T0.setTop (mkF m 19 #[.val (.ref o0), .val (.ref o1), .val (.ref a2), .val (.ref a3), .val (.ref a4), .val (.int i)] [])) (T18.setTop (mkF m 46 #[.val (.ref o0), .val (.ref o1), .val (.ref a2), .val (.ref a3), .val (.ref a4), .val (.int i)] [(.int i), (.ref o0), (.ref a2)])) := q19.trans (by
            show Steps p.tables e below (T18.setTop (mkF m 42 #[.val (.ref o0), .val (.ref o1), .val (.ref a2), .val (.ref a3), .val (.ref a4), .val (.int i)] [])) _
            refine XS.aloadN X18.here hx rfl (hb hby d1_42) rfl rfl ?_
            show Steps p.tables e below (T18.setTop (mkF m 43 #[.val (.ref o0), .val (.ref o1), .val (.ref a2), .val (.ref a3), .val (.ref a4), .val (.int i)] [(.ref a2)])) _
            refine XS.aloadN X18.here hx rfl (hb hby d1_43) rfl rfl ?_
            show Steps p.tables e below (T18.setTop (mkF m 44 #[.val (.ref o0), .val (.ref o1), .val (.ref a2), .val (.ref a3), .val (.ref a4), .val (.int i)] [(.ref o0), (.ref a2)])) _
            refine XS.iload X18.here hx rfl (hb hby d1_44) rfl ?_
            show Steps p.tables e below (T18.setTop (mkF m 46 #[.val (.ref o0), .val (.ref o1), .val (.ref a2), .val (.ref a3), .val (.ref a4), .val (.int i)] [(.int i), (.ref o0), (.ref a2)])) _
            exact Steps.refl _)
        obtain ⟨v21, hv21, hM⟩ := Option.bind_eq_some_iff.mp hM
        have q22 : Steps p.tables e below (T0.setTop (mkF m 19 #[.val (.ref o0), .val (.ref o1), .val (.ref a2), .val (.ref a3), .val (.ref a4), .val (.int i)] [])) (T18.setTop (mkF m 47 #[.val (.ref o0), .val (.ref o1), .val (.ref a2), .val (.ref a3), .val (.ref a4), .val (.int i)] [(.int v21), (.ref a2)])) := q20.trans (Own.ldO X18 hx hZ e18 Io0_18 hv21 (g := (mkF m 46 #[.val (.ref o0), .val (.ref o1), .val (.ref a2), .val (.ref a3), .val (.ref a4), .val (.int i)] [(.int i), (.ref o0), (.ref a2)])) rfl rfl (hb hby d1_46) _ (Steps.refl _))
        have q23 : Steps p.tables e below (T0.setTop (mkF m 19 #[.val (.ref o0), .val (.ref o1), .val (.ref a2), .val (.ref a3), .val (.ref a4), .val (.int i)] [])) (T18.setTop (mkF m 50 #[.val (.ref o0), .val (.ref o1), .val (.ref a2), .val (.ref a3), .val (.ref a4), .val (.int i)] [(.int i), (.ref o1), (.int v21), (.ref a2)])) := q22.trans (by
            show Steps p.tables e below (T18.setTop (mkF m 47 #[.val (.ref o0), .val (.ref o1), .val (.ref a2), .val (.ref a3), .val (.ref a4), .val (.int i)] [(.int v21), (.ref a2)])) _
            refine XS.aloadN X18.here hx rfl (hb hby d1_47) rfl rfl ?_
            show Steps p.tables e below (T18.setTop (mkF m 48 #[.val (.ref o0), .val (.ref o1), .val (.ref a2), .val (.ref a3), .val (.ref a4), .val (.int i)] [(.ref o1), (.int v21), (.ref a2)])) _
            refine XS.iload X18.here hx rfl (hb hby d1_48) rfl ?_
            show Steps p.tables e below (T18.setTop (mkF m 50 #[.val (.ref o0), .val (.ref o1), .val (.ref a2), .val (.ref a3), .val (.ref a4), .val (.int i)] [(.int i), (.ref o1), (.int v21), (.ref a2)])) _
            exact Steps.refl _)
        obtain ⟨v24, hv24, hM⟩ := Option.bind_eq_some_iff.mp hM
        have q25 : Steps p.tables e below (T0.setTop (mkF m 19 #[.val (.ref o0), .val (.ref o1), .val (.ref a2), .val (.ref a3), .val (.ref a4), .val (.int i)] [])) (T18.setTop (mkF m 51 #[.val (.ref o0), .val (.ref o1), .val (.ref a2), .val (.ref a3), .val (.ref a4), .val (.int i)] [(.double v24), (.int v21), (.ref a2)])) := q23.trans (Own.ldDO X18 hx hZ e18 Io1_18 hv24 (g := (mkF m 50 #[.val (.ref o0), .val (.ref o1), .val (.ref a2), .val (.ref a3), .val (.ref a4), .val (.int i)] [(.int i), (.ref o1), (.int v21), (.ref a2)])) rfl rfl (hb hby d1_50) _ (Steps.refl _))
        obtain ⟨y26, hy26, hM⟩ := Option.bind_eq_some_iff.mp hM
        obtain ⟨T27, h27, X27, e27, W27, J27, st27⟩ := Own.stDO X18 hx hZ e18 Ia2_18 hy26 (g := (mkF m 51 #[.val (.ref o0), .val (.ref o1), .val (.ref a2), .val (.ref a3), .val (.ref a4), .val (.int i)] [(.double v24), (.int v21), (.ref a2)])) rfl rfl (hb hby d1_51)
        have N27 := Fr.snoc X27 N18 ge_a2
        have Io0_27 := Io0_18.other W27 ne_o0_a2
        have Io1_27 := Io1_18.other W27 ne_o1_a2
        have Ia3_27 := J18.other W27 (Ne.symm ne_a2_a3)
        have Ia4_27 := Ia4_18.other W27 (Ne.symm ne_a2_a4)
        have Z27 : n0 ≤ h27.size := Own.size_wr W27 Z18
        have K27 : Keep h0 h27 [a2, a3, a4] := K18.wr W27 (Or.inl (List.mem_of_getElem? (i := 0) rfl))
        have q28 : Steps p.tables e below (T0.setTop (mkF m 19 #[.val (.ref o0), .val (.ref o1), .val (.ref a2), .val (.ref a3), .val (.ref a4), .val (.int i)] [])) (T27.setTop (mkF m 52 #[.val (.ref o0), .val (.ref o1), .val (.ref a2), .val (.ref a3), .val (.ref a4), .val (.int i)] [])) := q25.trans (st27 _ (Steps.refl _))
        have q29 : Steps p.tables e below (T0.setTop (mkF m 19 #[.val (.ref o0), .val (.ref o1), .val (.ref a2), .val (.ref a3), .val (.ref a4), .val (.int i)] [])) (T27.setTop (mkF m 60 #[.val (.ref o0), .val (.ref o1), .val (.ref a2), .val (.ref a3), .val (.ref a4), .val (.int i)] [(.int i), (.ref o0), (.ref a2), (.int i), (.ref a4)])) := q28.trans (by
            show Steps p.tables e below (T27.setTop (mkF m 52 #[.val (.ref o0), .val (.ref o1), .val (.ref a2), .val (.ref a3), .val (.ref a4), .val (.int i)] [])) _
            refine XS.aload X27.here hx rfl (hb hby d1_52) rfl rfl ?_
            show Steps p.tables e below (T27.setTop (mkF m 54 #[.val (.ref o0), .val (.ref o1), .val (.ref a2), .val (.ref a3), .val (.ref a4), .val (.int i)] [(.ref a4)])) _
            refine XS.iload X27.here hx rfl (hb hby d1_54) rfl ?_
            show Steps p.tables e below (T27.setTop (mkF m 56 #[.val (.ref o0), .val (.ref o1), .val (.ref a2), .val (.ref a3), .val (.ref a4), .val (.int i)] [(.int i), (.ref a4)])) _
            refine XS.aloadN X27.here hx rfl (hb hby d1_56) rfl rfl ?_
            show Steps p.tables e below (T27.setTop (mkF m 57 #[.val (.ref o0), .val (.ref o1), .val (.ref a2), .val (.ref a3), .val (.ref a4), .val (.int i)] [(.ref a2), (.int i), (.ref a4)])) _
            refine XS.aloadN X27.here hx rfl (hb hby d1_57) rfl rfl ?_
            show Steps p.tables e below (T27.setTop (mkF m 58 #[.val (.ref o0), .val (.ref o1), .val (.ref a2), .val (.ref a3), .val (.ref a4), .val (.int i)] [(.ref o0), (.ref a2), (.int i), (.ref a4)])) _
            refine XS.iload X27.here hx rfl (hb hby d1_58) rfl ?_
            show Steps p.tables e below (T27.setTop (mkF m 60 #[.val (.ref o0), .val (.ref o1), .val (.ref a2), .val (.ref a3), .val (.ref a4), .val (.int i)] [(.int i), (.ref o0), (.ref a2), (.int i), (.ref a4)])) _
            exact Steps.refl _)
        obtain ⟨v30, hv30, hM⟩ := Option.bind_eq_some_iff.mp hM
        have q31 : Steps p.tables e below (T0.setTop (mkF m 19 #[.val (.ref o0), .val (.ref o1), .val (.ref a2), .val (.ref a3), .val (.ref a4), .val (.int i)] [])) (T27.setTop (mkF m 61 #[.val (.ref o0), .val (.ref o1), .val (.ref a2), .val (.ref a3), .val (.ref a4), .val (.int i)] [(.int v30), (.ref a2), (.int i), (.ref a4)])) := q29.trans (Own.ldO X27 hx hZ e27 Io0_27 hv30 (g := (mkF m 60 #[.val (.ref o0), .val (.ref o1), .val (.ref a2), .val (.ref a3), .val (.ref a4), .val (.int i)] [(.int i), (.ref o0), (.ref a2), (.int i), (.ref a4)])) rfl rfl (hb hby d1_60) _ (Steps.refl _))
        obtain ⟨v32, hv32, hM⟩ := Option.bind_eq_some_iff.mp hM
        have q33 : Steps p.tables e below (T0.setTop (mkF m 19 #[.val (.ref o0), .val (.ref o1), .val (.ref a2), .val (.ref a3), .val (.ref a4), .val (.int i)] [])) (T27.setTop (mkF m 62 #[.val (.ref o0), .val (.ref o1), .val (.ref a2), .val (.ref a3), .val (.ref a4), .val (.int i)] [(.double v32), (.int i), (.ref a4)])) := q31.trans (Own.ldDO X27 hx hZ e27 J27 hv32 (g := (mkF m 61 #[.val (.ref o0), .val (.ref o1), .val (.ref a2), .val (.ref a3), .val (.ref a4), .val (.int i)] [(.int v30), (.ref a2), (.int i), (.ref a4)])) rfl rfl (hb hby d1_61) _ (Steps.refl _))
        obtain ⟨y34, hy34, hM⟩ := Option.bind_eq_some_iff.mp hM
        obtain ⟨T35, h35, X35, e35, W35, J35, st35⟩ := Own.stDO X27 hx hZ e27 Ia4_27 hy34 (g := (mkF m 62 #[.val (.ref o0), .val (.ref o1), .val (.ref a2), .val (.ref a3), .val (.ref a4), .val (.int i)] [(.double v32), (.int i), (.ref a4)])) rfl rfl (hb hby d1_62)
        have N35 := Fr.snoc X35 N27 ge_a4
        have Io0_35 := Io0_27.other W35 ne_o0_a4
        have Io1_35 := Io1_27.other W35 ne_o1_a4
        have Ia2_35 := J27.other W35 ne_a2_a4
        have Ia3_35 := Ia3_27.other W35 ne_a3_a4
        have Z35 : n0 ≤ h35.size := Own.size_wr W35 Z27
        have K35 : Keep h0 h35 [a2, a3, a4] := K27.wr W35 (Or.inl (List.mem_of_getElem? (i := 2) rfl))
        have q36 : Steps p.tables e below (T0.setTop (mkF m 19 #[.val (.ref o0), .val (.ref o1), .val (.ref a2), .val (.ref a3), .val (.ref a4), .val (.int i)] [])) (T35.setTop (mkF m 63 #[.val (.ref o0), .val (.ref o1), .val (.ref a2), .val (.ref a3), .val (.ref a4), .val (.int i)] [])) := q33.trans (st35 _ (Steps.refl _))
        have q37 : Steps p.tables e below (T0.setTop (mkF m 19 #[.val (.ref o0), .val (.ref o1), .val (.ref a2), .val (.ref a3), .val (.ref a4), .val (.int i)] [])) (T35.setTop (mkF m 19 #[.val (.ref o0), .val (.ref o1), .val (.ref a2), .val (.ref a3), .val (.ref a4), .val (.int (i + (1 : Int32)))] [])) := q36.trans (by
            show Steps p.tables e below (T35.setTop (mkF m 63 #[.val (.ref o0), .val (.ref o1), .val (.ref a2), .val (.ref a3), .val (.ref a4), .val (.int i)] [])) _
            refine XS.iinc X35.here hx rfl (hb hby d1_63) rfl (l' := #[.val (.ref o0), .val (.ref o1), .val (.ref a2), .val (.ref a3), .val (.ref a4), .val (.int (i + (1 : Int32)))]) rfl ?_
            show Steps p.tables e below (T35.setTop (mkF m 66 #[.val (.ref o0), .val (.ref o1), .val (.ref a2), .val (.ref a3), .val (.ref a4), .val (.int (i + (1 : Int32)))] [])) _
            refine XS.goto X35.here hx rfl (pc0 := 66) (pc' := 19) rfl (hb hby d1_66) (by decide) (by decide) ?_
            show Steps p.tables e below (T35.setTop (mkF m 19 #[.val (.ref o0), .val (.ref o1), .val (.ref a2), .val (.ref a3), .val (.ref a4), .val (.int (i + (1 : Int32)))] [])) _
            exact Steps.refl _)
        obtain ⟨T', locs', h', X', e', N', Z', K', J0', J1', J2', q'⟩ := ih (i + (1 : Int32)) y26 y17 y34  _ hM X35 e35 N35 Z35  Io0_35 Io1_35 Ia2_35 Ia3_35 J35
        exact ⟨T', locs', h', X', e', N', Z', K35.trans K' (fun _ hx' => Or.inl hx'), J0', J1', J2', q37.trans q'⟩
      · rw [if_neg hc11] at hM
        have q38 : Steps p.tables e below (T0.setTop (mkF m 19 #[.val (.ref o0), .val (.ref o1), .val (.ref a2), .val (.ref a3), .val (.ref a4), .val (.int i)] [])) (T0.setTop (mkF m 52 #[.val (.ref o0), .val (.ref o1), .val (.ref a2), .val (.ref a3), .val (.ref a4), .val (.int i)] [])) := q9.trans (by
            show Steps p.tables e below (T0.setTop (mkF m 32 #[.val (.ref o0), .val (.ref o1), .val (.ref a2), .val (.ref a3), .val (.ref a4), .val (.int i)] [(.int v8)])) _
            refine XS.ifYes X0.here hx rfl (pc0 := 32) (pc' := 52) rfl (hb hby d1_32) rfl ((if0 _ _).trans (feq hc11).2) (by decide) (by decide) ?_
            show Steps p.tables e below (T0.setTop (mkF m 52 #[.val (.ref o0), .val (.ref o1), .val (.ref a2), .val (.ref a3), .val (.ref a4), .val (.int i)] [])) _
            exact Steps.refl _)
        have q39 : Steps p.tables e below (T0.setTop (mkF m 19 #[.val (.ref o0), .val (.ref o1), .val (.ref a2), .val (.ref a3), .val (.ref a4), .val (.int i)] [])) (T0.setTop (mkF m 60 #[.val (.ref o0), .val (.ref o1), .val (.ref a2), .val (.ref a3), .val (.ref a4), .val (.int i)] [(.int i), (.ref o0), (.ref a2), (.int i), (.ref a4)])) := q38.trans (by
            show Steps p.tables e below (T0.setTop (mkF m 52 #[.val (.ref o0), .val (.ref o1), .val (.ref a2), .val (.ref a3), .val (.ref a4), .val (.int i)] [])) _
            refine XS.aload X0.here hx rfl (hb hby d1_52) rfl rfl ?_
            show Steps p.tables e below (T0.setTop (mkF m 54 #[.val (.ref o0), .val (.ref o1), .val (.ref a2), .val (.ref a3), .val (.ref a4), .val (.int i)] [(.ref a4)])) _
            refine XS.iload X0.here hx rfl (hb hby d1_54) rfl ?_
            show Steps p.tables e below (T0.setTop (mkF m 56 #[.val (.ref o0), .val (.ref o1), .val (.ref a2), .val (.ref a3), .val (.ref a4), .val (.int i)] [(.int i), (.ref a4)])) _
            refine XS.aloadN X0.here hx rfl (hb hby d1_56) rfl rfl ?_
            show Steps p.tables e below (T0.setTop (mkF m 57 #[.val (.ref o0), .val (.ref o1), .val (.ref a2), .val (.ref a3), .val (.ref a4), .val (.int i)] [(.ref a2), (.int i), (.ref a4)])) _
            refine XS.aloadN X0.here hx rfl (hb hby d1_57) rfl rfl ?_
            show Steps p.tables e below (T0.setTop (mkF m 58 #[.val (.ref o0), .val (.ref o1), .val (.ref a2), .val (.ref a3), .val (.ref a4), .val (.int i)] [(.ref o0), (.ref a2), (.int i), (.ref a4)])) _
            refine XS.iload X0.here hx rfl (hb hby d1_58) rfl ?_
            show Steps p.tables e below (T0.setTop (mkF m 60 #[.val (.ref o0), .val (.ref o1), .val (.ref a2), .val (.ref a3), .val (.ref a4), .val (.int i)] [(.int i), (.ref o0), (.ref a2), (.int i), (.ref a4)])) _
            exact Steps.refl _)
        obtain ⟨v40, hv40, hM⟩ := Option.bind_eq_some_iff.mp hM
        have q41 : Steps p.tables e below (T0.setTop (mkF m 19 #[.val (.ref o0), .val (.ref o1), .val (.ref a2), .val (.ref a3), .val (.ref a4), .val (.int i)] [])) (T0.setTop (mkF m 61 #[.val (.ref o0), .val (.ref o1), .val (.ref a2), .val (.ref a3), .val (.ref a4), .val (.int i)] [(.int v40), (.ref a2), (.int i), (.ref a4)])) := q39.trans (Own.ldO X0 hx hZ e0 I_o0 hv40 (g := (mkF m 60 #[.val (.ref o0), .val (.ref o1), .val (.ref a2), .val (.ref a3), .val (.ref a4), .val (.int i)] [(.int i), (.ref o0), (.ref a2), (.int i), (.ref a4)])) rfl rfl (hb hby d1_60) _ (Steps.refl _))
        obtain ⟨v42, hv42, hM⟩ := Option.bind_eq_some_iff.mp hM
        have q43 : Steps p.tables e below (T0.setTop (mkF m 19 #[.val (.ref o0), .val (.ref o1), .val (.ref a2), .val (.ref a3), .val (.ref a4), .val (.int i)] [])) (T0.setTop (mkF m 62 #[.val (.ref o0), .val (.ref o1), .val (.ref a2), .val (.ref a3), .val (.ref a4), .val (.int i)] [(.double v42), (.int i), (.ref a4)])) := q41.trans (Own.ldDO X0 hx hZ e0 I_a2 hv42 (g := (mkF m 61 #[.val (.ref o0), .val (.ref o1), .val (.ref a2), .val (.ref a3), .val (.ref a4), .val (.int i)] [(.int v40), (.ref a2), (.int i), (.ref a4)])) rfl rfl (hb hby d1_61) _ (Steps.refl _))
        obtain ⟨y44, hy44, hM⟩ := Option.bind_eq_some_iff.mp hM
        obtain ⟨T45, h45, X45, e45, W45, J45, st45⟩ := Own.stDO X0 hx hZ e0 I_a4 hy44 (g := (mkF m 62 #[.val (.ref o0), .val (.ref o1), .val (.ref a2), .val (.ref a3), .val (.ref a4), .val (.int i)] [(.double v42), (.int i), (.ref a4)])) rfl rfl (hb hby d1_62)
        have N45 := Fr.snoc X45 N0 ge_a4
        have Io0_45 := I_o0.other W45 ne_o0_a4
        have Io1_45 := I_o1.other W45 ne_o1_a4
        have Ia2_45 := I_a2.other W45 ne_a2_a4
        have Ia3_45 := I_a3.other W45 ne_a3_a4
        have Z45 : n0 ≤ h45.size := Own.size_wr W45 Z0
        have K45 : Keep h0 h45 [a2, a3, a4] := K0.wr W45 (Or.inl (List.mem_of_getElem? (i := 2) rfl))
        have q46 : Steps p.tables e below (T0.setTop (mkF m 19 #[.val (.ref o0), .val (.ref o1), .val (.ref a2), .val (.ref a3), .val (.ref a4), .val (.int i)] [])) (T45.setTop (mkF m 63 #[.val (.ref o0), .val (.ref o1), .val (.ref a2), .val (.ref a3), .val (.ref a4), .val (.int i)] [])) := q43.trans (st45 _ (Steps.refl _))
        have q47 : Steps p.tables e below (T0.setTop (mkF m 19 #[.val (.ref o0), .val (.ref o1), .val (.ref a2), .val (.ref a3), .val (.ref a4), .val (.int i)] [])) (T45.setTop (mkF m 19 #[.val (.ref o0), .val (.ref o1), .val (.ref a2), .val (.ref a3), .val (.ref a4), .val (.int (i + (1 : Int32)))] [])) := q46.trans (by
            show Steps p.tables e below (T45.setTop (mkF m 63 #[.val (.ref o0), .val (.ref o1), .val (.ref a2), .val (.ref a3), .val (.ref a4), .val (.int i)] [])) _
            refine XS.iinc X45.here hx rfl (hb hby d1_63) rfl (l' := #[.val (.ref o0), .val (.ref o1), .val (.ref a2), .val (.ref a3), .val (.ref a4), .val (.int (i + (1 : Int32)))]) rfl ?_
            show Steps p.tables e below (T45.setTop (mkF m 66 #[.val (.ref o0), .val (.ref o1), .val (.ref a2), .val (.ref a3), .val (.ref a4), .val (.int (i + (1 : Int32)))] [])) _
            refine XS.goto X45.here hx rfl (pc0 := 66) (pc' := 19) rfl (hb hby d1_66) (by decide) (by decide) ?_
            show Steps p.tables e below (T45.setTop (mkF m 19 #[.val (.ref o0), .val (.ref o1), .val (.ref a2), .val (.ref a3), .val (.ref a4), .val (.int (i + (1 : Int32)))] [])) _
            exact Steps.refl _)
        obtain ⟨T', locs', h', X', e', N', Z', K', J0', J1', J2', q'⟩ := ih (i + (1 : Int32)) xa xb y44  _ hM X45 e45 N45 Z45  Io0_45 Io1_45 Ia2_45 Ia3_45 J45
        exact ⟨T', locs', h', X', e', N', Z', K45.trans K' (fun _ hx' => Or.inl hx'), J0', J1', J2', q47.trans q'⟩
    · rw [if_neg hc3] at hM
      have q48 : Steps p.tables e below (T0.setTop (mkF m 19 #[.val (.ref o0), .val (.ref o1), .val (.ref a2), .val (.ref a3), .val (.ref a4), .val (.int i)] [])) (T0.setTop (mkF m 69 #[.val (.ref o0), .val (.ref o1), .val (.ref a2), .val (.ref a3), .val (.ref a4), .val (.int i)] [])) := q1.trans (by
          show Steps p.tables e below (T0.setTop (mkF m 23 #[.val (.ref o0), .val (.ref o1), .val (.ref a2), .val (.ref a3), .val (.ref a4), .val (.int i)] [(.int (Own.ln xr)), (.int i)])) _
          refine XS.icmpYes X0.here hx rfl (pc0 := 23) (pc' := 69) rfl (hb hby d1_23) rfl (flt hc3).2.1 (by decide) (by decide) ?_
          show Steps p.tables e below (T0.setTop (mkF m 69 #[.val (.ref o0), .val (.ref o1), .val (.ref a2), .val (.ref a3), .val (.ref a4), .val (.int i)] [])) _
          exact Steps.refl _)
      obtain rfl := Option.some.inj hM
      exact ⟨_, _, _, X0, e0, N0, Z0, K0, I_a2, I_a3, I_a4, q48⟩

theorem d1_0 : decode prog_31_method_9_code 0 = .ok (.aload_n 0, 1) := by decide +kernel
theorem d1_1 : decode prog_31_method_9_code 1 = .ok (.arraylength, 1) := by decide +kernel
theorem d1_2 : decode prog_31_method_9_code 2 = .ok (.newarray .double, 2) := by decide +kernel
theorem d1_4 : decode prog_31_method_9_code 4 = .ok (.astore_n 2, 1) := by decide +kernel
theorem d1_5 : decode prog_31_method_9_code 5 = .ok (.aload_n 0, 1) := by decide +kernel
theorem d1_6 : decode prog_31_method_9_code 6 = .ok (.arraylength, 1) := by decide +kernel
theorem d1_7 : decode prog_31_method_9_code 7 = .ok (.newarray .boolean, 2) := by decide +kernel
theorem d1_9 : decode prog_31_method_9_code 9 = .ok (.astore_n 3, 1) := by decide +kernel
theorem d1_10 : decode prog_31_method_9_code 10 = .ok (.aload_n 0, 1) := by decide +kernel
theorem d1_11 : decode prog_31_method_9_code 11 = .ok (.arraylength, 1) := by decide +kernel
theorem d1_12 : decode prog_31_method_9_code 12 = .ok (.newarray .double, 2) := by decide +kernel
theorem d1_14 : decode prog_31_method_9_code 14 = .ok (.astore 4, 2) := by decide +kernel
theorem d1_16 : decode prog_31_method_9_code 16 = .ok (.iconst 0, 1) := by decide +kernel
theorem d1_17 : decode prog_31_method_9_code 17 = .ok (.istore 5, 2) := by decide +kernel
theorem d1_69 : decode prog_31_method_9_code 69 = .ok (.aload 4, 2) := by decide +kernel
theorem d1_71 : decode prog_31_method_9_code 71 = .ok (.areturn, 1) := by decide +kernel
theorem pn_rmA : plainName "com/example/pareto_workflow_scheduler/paretoworkflowscheduler/algorithm/ReferencePoints" = true := by first | (simp [plainName, overriddenIn]; done) | decide +kernel
theorem ef_rmA (m : MethodId) (o0 : Addr) (o1 : Addr) : entryFrame m #[(.ref o0), (.ref o1)] 6 = mkF m 0 #[.val (.ref o0), .val (.ref o1), .unset, .unset, .unset, .unset] [] := by first | (simp [entryFrame, mkF, argsToLocals, Value.category]; done) | rfl
def M_alike (xr : List Int32) (xv : List UInt64) : Option (List UInt64) := (Own.mkD 4 (Own.ln xr)).bind fun y2 => (Own.mk 4 (Own.ln xr)).bind fun y6 => (Own.mkD 4 (Own.ln xr)).bind fun y10 => (M_lpA 8 xr xv (0 : Int32) y2 y6 y10).bind fun r14 => some r14.2.2.2
def Q_rmA (Z : State) (o0 : Addr) (o1 : Addr) (xr : List Int32) (xv : List UInt64) (out : List UInt64) (h0 : Heap) (n0 : Nat) (v : Option Value) (h : Heap) (L : List Loc) : Prop := ∃ d : Addr, v = some (.ref d) ∧ Fr n0 L ∧ Keep h0 h [] ∧ h0.size ≤ d ∧ Own.DA Z h d out
set_option maxRecDepth 65536 in
set_option maxHeartbeats 40000000 in
theorem rmA (l : Launch) (Z : State) (a0 : Array Value) (hw : ∀ d ∈ tables_1, d.before a0 Z = true) (ws : List Jvm.Cond) (o0 : Addr) (o1 : Addr) (xr : List Int32) (xv : List UInt64) (out : List UInt64) (h0 : Heap) (n0 : Nat) (Z0 : n0 ≤ h0.size) (I_o0 : Own.IA Z h0 o0 xr) (I_o1 : Own.DA Z h0 o1 xv) (hM : M_alike xr xv = some out) :
    MetFree l (⟨"com/example/pareto_workflow_scheduler/paretoworkflowscheduler/algorithm/ReferencePoints", "alike", "([I[D)[D"⟩ : MethodName) (head1 (Jvm.Cond.code (⟨"com/example/pareto_workflow_scheduler/paretoworkflowscheduler/algorithm/ReferencePoints", "alike", "([I[D)[D"⟩ : MethodName) prog_31_method_9_code 6 (some (.array .double)) :: ws) ({ frames := 0, cells := 3, slots := 12, locals := 0 } : Room)) (fun a U => a = #[(.ref o0), (.ref o1)] ∧ Z.Warmed39 U.vm ∧ U.heap = h0) (fun _ _ _ _ _ => True) (fun _ U o U' => ∃ v L, o = .returned v ∧ Q_rmA Z o0 o1 xr xv out h0 n0 v U'.heap L ∧ FrameEnd U o U' L ({ frames := 0, cells := 3, slots := 12, locals := 0 } : Room).cells ({ frames := 0, cells := 3, slots := 12, locals := 0 } : Room).slots) := by
  refine MetFree.of_bodySF (plainFor_of_name pn_rmA) hisR ?_
  intro p e s m args below meth c s₁ Bd hml0 hP hK
  obtain ⟨rfl, hZ, hh⟩ := hP
  have hx := Bd.exec
  have hby := Bd.bytes
  have hml : c.maxLocals = 6 := hml0
  have hown : s.vm.findClass "com/example/pareto_workflow_scheduler/paretoworkflowscheduler/algorithm/ReferencePoints" = some m.cls := findClass_of_methodNamed Bd.named
  have hnm := (name_of_methodNamed Bd.named Bd.method).1
  have X0 : Stand p l e ({ frames := 0, cells := 3, slots := 12, locals := 0 } : Room) s m #[(.ref o0), (.ref o1)] below meth c s₁ [] 0 0 := Stand.of_body Bd
  have e0 : s₁.heap = h0 := by rw [← hh, Bd.state]; rfl
  have N0 := Fr.nil n0
  have q0 : Steps p.tables e below (s₁.setTop (entryFrame m #[(.ref o0), (.ref o1)] 6)) (s₁.setTop (mkF m 0 #[.val (.ref o0), .val (.ref o1), .unset, .unset, .unset, .unset] [])) := castTop (ef_rmA m o0 o1) (Steps.refl _)
  unfold M_alike at hM
  have K0 : Keep h0 h0 [] := Keep.refl _ _
  have q1 : Steps p.tables e below (s₁.setTop (entryFrame m #[(.ref o0), (.ref o1)] 6)) (s₁.setTop (mkF m 2 #[.val (.ref o0), .val (.ref o1), .unset, .unset, .unset, .unset] [(.int (Own.ln xr))])) := q0.trans (by
      show Steps p.tables e below (s₁.setTop (mkF m 0 #[.val (.ref o0), .val (.ref o1), .unset, .unset, .unset, .unset] [])) _
      refine XS.aloadN X0.here hx rfl (hb hby d1_0) rfl rfl ?_
      show Steps p.tables e below (s₁.setTop (mkF m 1 #[.val (.ref o0), .val (.ref o1), .unset, .unset, .unset, .unset] [(.ref o0)])) _
      refine Own.lnV X0 hx hZ e0 I_o0 (z := Own.ln xr) (by rw [List.length_map]; rfl) (g := (mkF m 1 #[.val (.ref o0), .val (.ref o1), .unset, .unset, .unset, .unset] [(.ref o0)])) rfl rfl (hb hby d1_1) _ ?_
      show Steps p.tables e below (s₁.setTop (mkF m 2 #[.val (.ref o0), .val (.ref o1), .unset, .unset, .unset, .unset] [(.int (Own.ln xr))])) _
      exact Steps.refl _)
  obtain ⟨y2, hy2, hM⟩ := Option.bind_eq_some_iff.mp hM
  obtain ⟨T3, h3, k3, X3, e3, E3, A3, st3⟩ := newP X0 hx hZ (hw _ (List.mem_of_getElem? (i := 1) rfl)) e0 (g := (mkF m 2 #[.val (.ref o0), .val (.ref o1), .unset, .unset, .unset, .unset] [(.int (Own.ln xr))])) rfl (hb hby d1_2) rfl (Own.mkD_some hy2).1 (cap := 4) (Own.mkD_some hy2).2.1 (by decide) (by decide) (by decide)
  obtain ⟨a2, g3⟩ : ∃ z, z = h0.size := ⟨_, rfl⟩
  rw [← g3] at A3 st3
  have ge_a2 : n0 ≤ a2 := Nat.le_trans Z0 (Nat.le_of_eq g3.symm)
  have ne_o0_a2 : o0 ≠ a2 := Nat.ne_of_lt (Nat.lt_of_lt_of_le I_o0.lt (Nat.le_of_eq g3.symm))
  have ne_o1_a2 : o1 ≠ a2 := Nat.ne_of_lt (Nat.lt_of_lt_of_le I_o1.lt (Nat.le_of_eq g3.symm))
  have old_a2 : h0.size ≤ a2 := Nat.le_trans K0.1 (Nat.le_of_eq g3.symm)
  have Io0_3 := I_o0.ext E3
  have Io1_3 := I_o1.ext E3
  have Z3 : n0 ≤ h3.size := Nat.le_trans Z0 E3.1
  have K3 : Keep h0 h3 [] := K0.ext E3
  have I_a2 : Own.DA Z h3 a2 y2 := (Own.mkD_some hy2).2.2 ▸ Own.DA.new A3 rfl
  have q4 : Steps p.tables e below (s₁.setTop (entryFrame m #[(.ref o0), (.ref o1)] 6)) (T3.setTop (mkF m 4 #[.val (.ref o0), .val (.ref o1), .unset, .unset, .unset, .unset] [(.ref a2)])) := q1.trans (st3 _ (Steps.refl _))
  have q5 : Steps p.tables e below (s₁.setTop (entryFrame m #[(.ref o0), (.ref o1)] 6)) (T3.setTop (mkF m 7 #[.val (.ref o0), .val (.ref o1), .val (.ref a2), .unset, .unset, .unset] [(.int (Own.ln xr))])) := q4.trans (by
      show Steps p.tables e below (T3.setTop (mkF m 4 #[.val (.ref o0), .val (.ref o1), .unset, .unset, .unset, .unset] [(.ref a2)])) _
      refine XS.astoreN X3.here hx rfl (hb hby d1_4) rfl rfl (l' := #[.val (.ref o0), .val (.ref o1), .val (.ref a2), .unset, .unset, .unset]) rfl ?_
      show Steps p.tables e below (T3.setTop (mkF m 5 #[.val (.ref o0), .val (.ref o1), .val (.ref a2), .unset, .unset, .unset] [])) _
      refine XS.aloadN X3.here hx rfl (hb hby d1_5) rfl rfl ?_
      show Steps p.tables e below (T3.setTop (mkF m 6 #[.val (.ref o0), .val (.ref o1), .val (.ref a2), .unset, .unset, .unset] [(.ref o0)])) _
      refine Own.lnV X3 hx hZ e3 Io0_3 (z := Own.ln xr) (by rw [List.length_map]; rfl) (g := (mkF m 6 #[.val (.ref o0), .val (.ref o1), .val (.ref a2), .unset, .unset, .unset] [(.ref o0)])) rfl rfl (hb hby d1_6) _ ?_
      show Steps p.tables e below (T3.setTop (mkF m 7 #[.val (.ref o0), .val (.ref o1), .val (.ref a2), .unset, .unset, .unset] [(.int (Own.ln xr))])) _
      exact Steps.refl _)
  obtain ⟨y6, hy6, hM⟩ := Option.bind_eq_some_iff.mp hM
  obtain ⟨T7, h7, k7, X7, e7, E7, A7, st7⟩ := newP X3 hx hZ (hw _ (List.mem_of_getElem? (i := 6) rfl)) e3 (g := (mkF m 7 #[.val (.ref o0), .val (.ref o1), .val (.ref a2), .unset, .unset, .unset] [(.int (Own.ln xr))])) rfl (hb hby d1_7) rfl (Own.mk_some hy6).1 (cap := 4) (Own.mk_some hy6).2.1 (by decide) (by decide) (by decide)
  obtain ⟨a3, g7⟩ : ∃ z, z = h3.size := ⟨_, rfl⟩
  rw [← g7] at A7 st7
  have ge_a3 : n0 ≤ a3 := Nat.le_trans Z3 (Nat.le_of_eq g7.symm)
  have ne_o0_a3 : o0 ≠ a3 := Nat.ne_of_lt (Nat.lt_of_lt_of_le Io0_3.lt (Nat.le_of_eq g7.symm))
  have ne_o1_a3 : o1 ≠ a3 := Nat.ne_of_lt (Nat.lt_of_lt_of_le Io1_3.lt (Nat.le_of_eq g7.symm))
  have ne_a2_a3 : a2 ≠ a3 := Nat.ne_of_lt (Nat.lt_of_lt_of_le I_a2.lt (Nat.le_of_eq g7.symm))
  have old_a3 : h0.size ≤ a3 := Nat.le_trans K3.1 (Nat.le_of_eq g7.symm)
  have Io0_7 := Io0_3.ext E7
  have Io1_7 := Io1_3.ext E7
  have Ia2_7 := I_a2.ext E7
  have Z7 : n0 ≤ h7.size := Nat.le_trans Z3 E7.1
  have K7 : Keep h0 h7 [] := K3.ext E7
  have I_a3 : Own.ZA Z h7 a3 y6 := (Own.mk_some hy6).2.2 ▸ Own.ZA.new A7 rfl
  have q8 : Steps p.tables e below (s₁.setTop (entryFrame m #[(.ref o0), (.ref o1)] 6)) (T7.setTop (mkF m 9 #[.val (.ref o0), .val (.ref o1), .val (.ref a2), .unset, .unset, .unset] [(.ref a3)])) := q5.trans (st7 _ (Steps.refl _))
  have q9 : Steps p.tables e below (s₁.setTop (entryFrame m #[(.ref o0), (.ref o1)] 6)) (T7.setTop (mkF m 12 #[.val (.ref o0), .val (.ref o1), .val (.ref a2), .val (.ref a3), .unset, .unset] [(.int (Own.ln xr))])) := q8.trans (by
      show Steps p.tables e below (T7.setTop (mkF m 9 #[.val (.ref o0), .val (.ref o1), .val (.ref a2), .unset, .unset, .unset] [(.ref a3)])) _
      refine XS.astoreN X7.here hx rfl (hb hby d1_9) rfl rfl (l' := #[.val (.ref o0), .val (.ref o1), .val (.ref a2), .val (.ref a3), .unset, .unset]) rfl ?_
      show Steps p.tables e below (T7.setTop (mkF m 10 #[.val (.ref o0), .val (.ref o1), .val (.ref a2), .val (.ref a3), .unset, .unset] [])) _
      refine XS.aloadN X7.here hx rfl (hb hby d1_10) rfl rfl ?_
      show Steps p.tables e below (T7.setTop (mkF m 11 #[.val (.ref o0), .val (.ref o1), .val (.ref a2), .val (.ref a3), .unset, .unset] [(.ref o0)])) _
      refine Own.lnV X7 hx hZ e7 Io0_7 (z := Own.ln xr) (by rw [List.length_map]; rfl) (g := (mkF m 11 #[.val (.ref o0), .val (.ref o1), .val (.ref a2), .val (.ref a3), .unset, .unset] [(.ref o0)])) rfl rfl (hb hby d1_11) _ ?_
      show Steps p.tables e below (T7.setTop (mkF m 12 #[.val (.ref o0), .val (.ref o1), .val (.ref a2), .val (.ref a3), .unset, .unset] [(.int (Own.ln xr))])) _
      exact Steps.refl _)
  obtain ⟨y10, hy10, hM⟩ := Option.bind_eq_some_iff.mp hM
  obtain ⟨T11, h11, k11, X11, e11, E11, A11, st11⟩ := newP X7 hx hZ (hw _ (List.mem_of_getElem? (i := 1) rfl)) e7 (g := (mkF m 12 #[.val (.ref o0), .val (.ref o1), .val (.ref a2), .val (.ref a3), .unset, .unset] [(.int (Own.ln xr))])) rfl (hb hby d1_12) rfl (Own.mkD_some hy10).1 (cap := 4) (Own.mkD_some hy10).2.1 (by decide) (by decide) (by decide)
  obtain ⟨a4, g11⟩ : ∃ z, z = h7.size := ⟨_, rfl⟩
  rw [← g11] at A11 st11
  have ge_a4 : n0 ≤ a4 := Nat.le_trans Z7 (Nat.le_of_eq g11.symm)
  have ne_o0_a4 : o0 ≠ a4 := Nat.ne_of_lt (Nat.lt_of_lt_of_le Io0_7.lt (Nat.le_of_eq g11.symm))
  have ne_o1_a4 : o1 ≠ a4 := Nat.ne_of_lt (Nat.lt_of_lt_of_le Io1_7.lt (Nat.le_of_eq g11.symm))
  have ne_a2_a4 : a2 ≠ a4 := Nat.ne_of_lt (Nat.lt_of_lt_of_le Ia2_7.lt (Nat.le_of_eq g11.symm))
  have ne_a3_a4 : a3 ≠ a4 := Nat.ne_of_lt (Nat.lt_of_lt_of_le I_a3.lt (Nat.le_of_eq g11.symm))
  have old_a4 : h0.size ≤ a4 := Nat.le_trans K7.1 (Nat.le_of_eq g11.symm)
  have Io0_11 := Io0_7.ext E11
  have Io1_11 := Io1_7.ext E11
  have Ia2_11 := Ia2_7.ext E11
  have Ia3_11 := I_a3.ext E11
  have Z11 : n0 ≤ h11.size := Nat.le_trans Z7 E11.1
  have K11 : Keep h0 h11 [] := K7.ext E11
  have I_a4 : Own.DA Z h11 a4 y10 := (Own.mkD_some hy10).2.2 ▸ Own.DA.new A11 rfl
  have q12 : Steps p.tables e below (s₁.setTop (entryFrame m #[(.ref o0), (.ref o1)] 6)) (T11.setTop (mkF m 14 #[.val (.ref o0), .val (.ref o1), .val (.ref a2), .val (.ref a3), .unset, .unset] [(.ref a4)])) := q9.trans (st11 _ (Steps.refl _))
  have q13 : Steps p.tables e below (s₁.setTop (entryFrame m #[(.ref o0), (.ref o1)] 6)) (T11.setTop (mkF m 19 #[.val (.ref o0), .val (.ref o1), .val (.ref a2), .val (.ref a3), .val (.ref a4), .val (.int (0 : Int32))] [])) := q12.trans (by
      show Steps p.tables e below (T11.setTop (mkF m 14 #[.val (.ref o0), .val (.ref o1), .val (.ref a2), .val (.ref a3), .unset, .unset] [(.ref a4)])) _
      refine XS.astore X11.here hx rfl (hb hby d1_14) rfl rfl (l' := #[.val (.ref o0), .val (.ref o1), .val (.ref a2), .val (.ref a3), .val (.ref a4), .unset]) rfl ?_
      show Steps p.tables e below (T11.setTop (mkF m 16 #[.val (.ref o0), .val (.ref o1), .val (.ref a2), .val (.ref a3), .val (.ref a4), .unset] [])) _
      refine XS.iconst X11.here hx rfl (hb hby d1_16) ?_
      show Steps p.tables e below (T11.setTop (mkF m 17 #[.val (.ref o0), .val (.ref o1), .val (.ref a2), .val (.ref a3), .val (.ref a4), .unset] [(.int (0 : Int32))])) _
      refine XS.istore X11.here hx rfl (hb hby d1_17) rfl (l' := #[.val (.ref o0), .val (.ref o1), .val (.ref a2), .val (.ref a3), .val (.ref a4), .val (.int (0 : Int32))]) rfl ?_
      show Steps p.tables e below (T11.setTop (mkF m 19 #[.val (.ref o0), .val (.ref o1), .val (.ref a2), .val (.ref a3), .val (.ref a4), .val (.int (0 : Int32))] [])) _
      exact Steps.refl _)
  obtain ⟨r14, hr14, hM⟩ := Option.bind_eq_some_iff.mp hM
  obtain ⟨T15, L15, h15, X15, e15, N15, Zq15, K15, J15_0, J15_1, J15_2, ql15⟩ := lpA hx hZ hw hby hml hown o0 o1 a2 a3 a4 xr xv ge_a2 ge_a3 ge_a4 ne_o0_a2 ne_o0_a3 ne_o0_a4 ne_o1_a2 ne_o1_a3 ne_o1_a4 ne_a2_a3 ne_a2_a4 ne_a3_a4 8 (0 : Int32) y2 y6 y10  _ hr14 X11 e11 N0 Z11  Io0_11 Io1_11 Ia2_11 Ia3_11 I_a4
  have Io0_15 := Io0_11.keep K15 (ninS ne_o0_a2 (ninS ne_o0_a3 (ninS ne_o0_a4 nin0)))
  have Io1_15 := Io1_11.keep K15 (ninS ne_o1_a2 (ninS ne_o1_a3 (ninS ne_o1_a4 nin0)))
  have Z15 : n0 ≤ h15.size := Nat.le_trans Z11 K15.1
  have KK15 : Keep h0 h15 [] := K11.trans K15 (allS (Or.inr old_a2) (allS (Or.inr old_a3) (allS (Or.inr old_a4) all0)))
  have q16 : Steps p.tables e below (s₁.setTop (entryFrame m #[(.ref o0), (.ref o1)] 6)) (T15.setTop (mkF m 69 #[.val (.ref o0), .val (.ref o1), .val (.ref a2), .val (.ref a3), .val (.ref a4), .val (.int r14.1)] [])) := q13.trans ql15
  have q17 : Steps p.tables e below (s₁.setTop (entryFrame m #[(.ref o0), (.ref o1)] 6)) (T15.setTop (mkF m 71 #[.val (.ref o0), .val (.ref o1), .val (.ref a2), .val (.ref a3), .val (.ref a4), .val (.int r14.1)] [(.ref a4)])) := q16.trans (by
      show Steps p.tables e below (T15.setTop (mkF m 69 #[.val (.ref o0), .val (.ref o1), .val (.ref a2), .val (.ref a3), .val (.ref a4), .val (.int r14.1)] [])) _
      refine XS.aload X15.here hx rfl (hb hby d1_69) rfl rfl ?_
      show Steps p.tables e below (T15.setTop (mkF m 71 #[.val (.ref o0), .val (.ref o1), .val (.ref a2), .val (.ref a3), .val (.ref a4), .val (.int r14.1)] [(.ref a4)])) _
      exact Steps.refl _)
  obtain rfl := Option.some.inj hM
  obtain ⟨fs, hr, hrun, hended, hW, hsame⟩ := X15.leave (v := some (.ref a4)) (fun h => by rw [Bd.returns] at h; cases h)
  refine ⟨_, _, q17.trans ?_, hrun, hended, _, _, rfl, ?_, ⟨_, rfl⟩, hW, hsame.mono (by decide) (by decide)⟩
  · exact retA X15 hx Bd.returns rfl rfl (hb hby d1_71) hr
  · show Q_rmA Z o0 o1 xr xv _ h0 n0 _ T15.heap _
    rw [e15]
    exact ⟨a4, rfl, N15, KK15, old_a4, J15_2⟩

theorem d2_0 : decode method_2_code 0 = .ok (.aload_n 0, 1) := by decide +kernel
theorem d2_1 : decode method_2_code 1 = .ok (.iconst 0, 1) := by decide +kernel
theorem d2_2 : decode method_2_code 2 = .ok (.iaload, 1) := by decide +kernel
theorem d2_3 : decode method_2_code 3 = .ok (.aload_n 0, 1) := by decide +kernel
theorem d2_4 : decode method_2_code 4 = .ok (.iload_n 1, 1) := by decide +kernel
theorem d2_5 : decode method_2_code 5 = .ok (.iaload, 1) := by decide +kernel
theorem d2_6 : decode method_2_code 6 = .ok (.if_icmp .ne 5, 3) := by decide +kernel
theorem d2_9 : decode method_2_code 9 = .ok (.iconst 0, 1) := by decide +kernel
theorem d2_10 : decode method_2_code 10 = .ok (.ireturn, 1) := by decide +kernel
theorem d2_11 : decode method_2_code 11 = .ok (.aload_n 0, 1) := by decide +kernel
theorem d2_12 : decode method_2_code 12 = .ok (.iconst 1, 1) := by decide +kernel
theorem d2_13 : decode method_2_code 13 = .ok (.iaload, 1) := by decide +kernel
theorem d2_14 : decode method_2_code 14 = .ok (.aload_n 0, 1) := by decide +kernel
theorem d2_15 : decode method_2_code 15 = .ok (.iload_n 1, 1) := by decide +kernel
theorem d2_16 : decode method_2_code 16 = .ok (.iaload, 1) := by decide +kernel
theorem d2_17 : decode method_2_code 17 = .ok (.if_icmp .ne 5, 3) := by decide +kernel
theorem d2_20 : decode method_2_code 20 = .ok (.iconst 1, 1) := by decide +kernel
theorem d2_21 : decode method_2_code 21 = .ok (.ireturn, 1) := by decide +kernel
theorem d2_22 : decode method_2_code 22 = .ok (.aload_n 0, 1) := by decide +kernel
theorem d2_23 : decode method_2_code 23 = .ok (.iconst 2, 1) := by decide +kernel
theorem d2_24 : decode method_2_code 24 = .ok (.iaload, 1) := by decide +kernel
theorem d2_25 : decode method_2_code 25 = .ok (.aload_n 0, 1) := by decide +kernel
theorem d2_26 : decode method_2_code 26 = .ok (.iload_n 1, 1) := by decide +kernel
theorem d2_27 : decode method_2_code 27 = .ok (.iaload, 1) := by decide +kernel
theorem d2_28 : decode method_2_code 28 = .ok (.if_icmp .ne 5, 3) := by decide +kernel
theorem d2_31 : decode method_2_code 31 = .ok (.iconst 2, 1) := by decide +kernel
theorem d2_32 : decode method_2_code 32 = .ok (.ireturn, 1) := by decide +kernel
theorem d2_33 : decode method_2_code 33 = .ok (.iconst 3, 1) := by decide +kernel
theorem d2_34 : decode method_2_code 34 = .ok (.ireturn, 1) := by decide +kernel
theorem pn_rmF : plainName "com/example/pareto_workflow_scheduler/paretoworkflowscheduler/algorithm/ReferencePointsAlikePinLaw" = true := by first | (simp [plainName, overriddenIn]; done) | decide +kernel
theorem ef_rmF (m : MethodId) (o0 : Addr) (p1 : Int32) : entryFrame m #[(.ref o0), (.int p1)] 2 = mkF m 0 #[.val (.ref o0), .val (.int p1)] [] := by first | (simp [entryFrame, mkF, argsToLocals, Value.category]; done) | rfl
def M_first (p1 : Int32) (xs : List Int32) : Option (Int32) := (Own.rd xs (0 : Int32)).bind fun v2 => (Own.rd xs p1).bind fun v5 => (if v2 = v5 then some (0 : Int32) else (Own.rd xs (1 : Int32)).bind fun v12 => (Own.rd xs p1).bind fun v15 => (if v12 = v15 then some (1 : Int32) else (Own.rd xs (2 : Int32)).bind fun v22 => (Own.rd xs p1).bind fun v25 => (if v22 = v25 then some (2 : Int32) else some (3 : Int32))))
def Q_rmF (Z : State) (o0 : Addr) (p1 : Int32) (xs : List Int32) (out : Int32) (h0 : Heap) (n0 : Nat) (v : Option Value) (h : Heap) (L : List Loc) : Prop := v = some (.int out) ∧ Fr n0 L ∧ h = h0
set_option maxRecDepth 65536 in
set_option maxHeartbeats 40000000 in
theorem rmF (l : Launch) (Z : State) (a0 : Array Value) (hw : ∀ d ∈ tables_1, d.before a0 Z = true) (ws : List Jvm.Cond) (o0 : Addr) (p1 : Int32) (xs : List Int32) (out : Int32) (h0 : Heap) (n0 : Nat) (Z0 : n0 ≤ h0.size) (I_o0 : Own.IA Z h0 o0 xs) (hM : M_first p1 xs = some out) :
    MetFree l (⟨"com/example/pareto_workflow_scheduler/paretoworkflowscheduler/algorithm/ReferencePointsAlikePinLaw", "first", "([II)I"⟩ : MethodName) (head1 (Jvm.Cond.code (⟨"com/example/pareto_workflow_scheduler/paretoworkflowscheduler/algorithm/ReferencePointsAlikePinLaw", "first", "([II)I"⟩ : MethodName) method_2_code 2 (some .int) :: ws) ({ frames := 0, cells := 0, slots := 0, locals := 0 } : Room)) (fun a U => a = #[(.ref o0), (.int p1)] ∧ Z.Warmed39 U.vm ∧ U.heap = h0) (fun _ _ _ _ _ => True) (fun _ U o U' => ∃ v L, o = .returned v ∧ Q_rmF Z o0 p1 xs out h0 n0 v U'.heap L ∧ FrameEnd U o U' L ({ frames := 0, cells := 0, slots := 0, locals := 0 } : Room).cells ({ frames := 0, cells := 0, slots := 0, locals := 0 } : Room).slots) := by
  refine MetFree.of_bodySF (plainFor_of_name pn_rmF) hisR ?_
  intro p e s m args below meth c s₁ Bd hml0 hP hK
  obtain ⟨rfl, hZ, hh⟩ := hP
  have hx := Bd.exec
  have hby := Bd.bytes
  have hml : c.maxLocals = 2 := hml0
  have hown : s.vm.findClass "com/example/pareto_workflow_scheduler/paretoworkflowscheduler/algorithm/ReferencePointsAlikePinLaw" = some m.cls := findClass_of_methodNamed Bd.named
  have hnm := (name_of_methodNamed Bd.named Bd.method).1
  have X0 : Stand p l e ({ frames := 0, cells := 0, slots := 0, locals := 0 } : Room) s m #[(.ref o0), (.int p1)] below meth c s₁ [] 0 0 := Stand.of_body Bd
  have e0 : s₁.heap = h0 := by rw [← hh, Bd.state]; rfl
  have N0 := Fr.nil n0
  have q0 : Steps p.tables e below (s₁.setTop (entryFrame m #[(.ref o0), (.int p1)] 2)) (s₁.setTop (mkF m 0 #[.val (.ref o0), .val (.int p1)] [])) := castTop (ef_rmF m o0 p1) (Steps.refl _)
  unfold M_first at hM
  have q1 : Steps p.tables e below (s₁.setTop (entryFrame m #[(.ref o0), (.int p1)] 2)) (s₁.setTop (mkF m 2 #[.val (.ref o0), .val (.int p1)] [(.int (0 : Int32)), (.ref o0)])) := q0.trans (by
      show Steps p.tables e below (s₁.setTop (mkF m 0 #[.val (.ref o0), .val (.int p1)] [])) _
      refine XS.aloadN X0.here hx rfl (hb hby d2_0) rfl rfl ?_
      show Steps p.tables e below (s₁.setTop (mkF m 1 #[.val (.ref o0), .val (.int p1)] [(.ref o0)])) _
      refine XS.iconst X0.here hx rfl (hb hby d2_1) ?_
      show Steps p.tables e below (s₁.setTop (mkF m 2 #[.val (.ref o0), .val (.int p1)] [(.int (0 : Int32)), (.ref o0)])) _
      exact Steps.refl _)
  obtain ⟨v2, hv2, hM⟩ := Option.bind_eq_some_iff.mp hM
  have q3 : Steps p.tables e below (s₁.setTop (entryFrame m #[(.ref o0), (.int p1)] 2)) (s₁.setTop (mkF m 3 #[.val (.ref o0), .val (.int p1)] [(.int v2)])) := q1.trans (Own.ldO X0 hx hZ e0 I_o0 hv2 (g := (mkF m 2 #[.val (.ref o0), .val (.int p1)] [(.int (0 : Int32)), (.ref o0)])) rfl rfl (hb hby d2_2) _ (Steps.refl _))
  have q4 : Steps p.tables e below (s₁.setTop (entryFrame m #[(.ref o0), (.int p1)] 2)) (s₁.setTop (mkF m 5 #[.val (.ref o0), .val (.int p1)] [(.int p1), (.ref o0), (.int v2)])) := q3.trans (by
      show Steps p.tables e below (s₁.setTop (mkF m 3 #[.val (.ref o0), .val (.int p1)] [(.int v2)])) _
      refine XS.aloadN X0.here hx rfl (hb hby d2_3) rfl rfl ?_
      show Steps p.tables e below (s₁.setTop (mkF m 4 #[.val (.ref o0), .val (.int p1)] [(.ref o0), (.int v2)])) _
      refine XS.iloadN X0.here hx rfl (hb hby d2_4) rfl ?_
      show Steps p.tables e below (s₁.setTop (mkF m 5 #[.val (.ref o0), .val (.int p1)] [(.int p1), (.ref o0), (.int v2)])) _
      exact Steps.refl _)
  obtain ⟨v5, hv5, hM⟩ := Option.bind_eq_some_iff.mp hM
  have q6 : Steps p.tables e below (s₁.setTop (entryFrame m #[(.ref o0), (.int p1)] 2)) (s₁.setTop (mkF m 6 #[.val (.ref o0), .val (.int p1)] [(.int v5), (.int v2)])) := q4.trans (Own.ldO X0 hx hZ e0 I_o0 hv5 (g := (mkF m 5 #[.val (.ref o0), .val (.int p1)] [(.int p1), (.ref o0), (.int v2)])) rfl rfl (hb hby d2_5) _ (Steps.refl _))
  by_cases hc7 : v2 = v5
  · rw [if_pos hc7] at hM
    have q8 : Steps p.tables e below (s₁.setTop (entryFrame m #[(.ref o0), (.int p1)] 2)) (s₁.setTop (mkF m 9 #[.val (.ref o0), .val (.int p1)] [])) := q6.trans (by
        show Steps p.tables e below (s₁.setTop (mkF m 6 #[.val (.ref o0), .val (.int p1)] [(.int v5), (.int v2)])) _
        refine XS.icmpNo X0.here hx rfl (hb hby d2_6) rfl (teq hc7).2 ?_
        show Steps p.tables e below (s₁.setTop (mkF m 9 #[.val (.ref o0), .val (.int p1)] [])) _
        exact Steps.refl _)
    have q9 : Steps p.tables e below (s₁.setTop (entryFrame m #[(.ref o0), (.int p1)] 2)) (s₁.setTop (mkF m 10 #[.val (.ref o0), .val (.int p1)] [(.int (0 : Int32))])) := q8.trans (by
        show Steps p.tables e below (s₁.setTop (mkF m 9 #[.val (.ref o0), .val (.int p1)] [])) _
        refine XS.iconst X0.here hx rfl (hb hby d2_9) ?_
        show Steps p.tables e below (s₁.setTop (mkF m 10 #[.val (.ref o0), .val (.int p1)] [(.int (0 : Int32))])) _
        exact Steps.refl _)
    obtain rfl := Option.some.inj hM
    obtain ⟨fs, hr, hrun, hended, hW, hsame⟩ := X0.leave (v := some (.int (0 : Int32))) (fun h => by rw [Bd.returns] at h; cases h)
    refine ⟨_, _, q9.trans ?_, hrun, hended, _, _, rfl, ?_, ⟨_, rfl⟩, hW, hsame.mono (by decide) (by decide)⟩
    · exact retI X0 hx Bd.returns (hb hby d2_10) hr
    · show Q_rmF Z o0 p1 xs _ h0 n0 _ s₁.heap _
      rw [e0]
      exact ⟨rfl, N0, rfl⟩
  · rw [if_neg hc7] at hM
    have q10 : Steps p.tables e below (s₁.setTop (entryFrame m #[(.ref o0), (.int p1)] 2)) (s₁.setTop (mkF m 11 #[.val (.ref o0), .val (.int p1)] [])) := q6.trans (by
        show Steps p.tables e below (s₁.setTop (mkF m 6 #[.val (.ref o0), .val (.int p1)] [(.int v5), (.int v2)])) _
        refine XS.icmpYes X0.here hx rfl (pc0 := 6) (pc' := 11) rfl (hb hby d2_6) rfl (feq hc7).2 (by decide) (by decide) ?_
        show Steps p.tables e below (s₁.setTop (mkF m 11 #[.val (.ref o0), .val (.int p1)] [])) _
        exact Steps.refl _)
    have q11 : Steps p.tables e below (s₁.setTop (entryFrame m #[(.ref o0), (.int p1)] 2)) (s₁.setTop (mkF m 13 #[.val (.ref o0), .val (.int p1)] [(.int (1 : Int32)), (.ref o0)])) := q10.trans (by
        show Steps p.tables e below (s₁.setTop (mkF m 11 #[.val (.ref o0), .val (.int p1)] [])) _
        refine XS.aloadN X0.here hx rfl (hb hby d2_11) rfl rfl ?_
        show Steps p.tables e below (s₁.setTop (mkF m 12 #[.val (.ref o0), .val (.int p1)] [(.ref o0)])) _
        refine XS.iconst X0.here hx rfl (hb hby d2_12) ?_
        show Steps p.tables e below (s₁.setTop (mkF m 13 #[.val (.ref o0), .val (.int p1)] [(.int (1 : Int32)), (.ref o0)])) _
        exact Steps.refl _)
    obtain ⟨v12, hv12, hM⟩ := Option.bind_eq_some_iff.mp hM
    have q13 : Steps p.tables e below (s₁.setTop (entryFrame m #[(.ref o0), (.int p1)] 2)) (s₁.setTop (mkF m 14 #[.val (.ref o0), .val (.int p1)] [(.int v12)])) := q11.trans (Own.ldO X0 hx hZ e0 I_o0 hv12 (g := (mkF m 13 #[.val (.ref o0), .val (.int p1)] [(.int (1 : Int32)), (.ref o0)])) rfl rfl (hb hby d2_13) _ (Steps.refl _))
    have q14 : Steps p.tables e below (s₁.setTop (entryFrame m #[(.ref o0), (.int p1)] 2)) (s₁.setTop (mkF m 16 #[.val (.ref o0), .val (.int p1)] [(.int p1), (.ref o0), (.int v12)])) := q13.trans (by
        show Steps p.tables e below (s₁.setTop (mkF m 14 #[.val (.ref o0), .val (.int p1)] [(.int v12)])) _
        refine XS.aloadN X0.here hx rfl (hb hby d2_14) rfl rfl ?_
        show Steps p.tables e below (s₁.setTop (mkF m 15 #[.val (.ref o0), .val (.int p1)] [(.ref o0), (.int v12)])) _
        refine XS.iloadN X0.here hx rfl (hb hby d2_15) rfl ?_
        show Steps p.tables e below (s₁.setTop (mkF m 16 #[.val (.ref o0), .val (.int p1)] [(.int p1), (.ref o0), (.int v12)])) _
        exact Steps.refl _)
    obtain ⟨v15, hv15, hM⟩ := Option.bind_eq_some_iff.mp hM
    have q16 : Steps p.tables e below (s₁.setTop (entryFrame m #[(.ref o0), (.int p1)] 2)) (s₁.setTop (mkF m 17 #[.val (.ref o0), .val (.int p1)] [(.int v15), (.int v12)])) := q14.trans (Own.ldO X0 hx hZ e0 I_o0 hv15 (g := (mkF m 16 #[.val (.ref o0), .val (.int p1)] [(.int p1), (.ref o0), (.int v12)])) rfl rfl (hb hby d2_16) _ (Steps.refl _))
    by_cases hc17 : v12 = v15
    · rw [if_pos hc17] at hM
      have q18 : Steps p.tables e below (s₁.setTop (entryFrame m #[(.ref o0), (.int p1)] 2)) (s₁.setTop (mkF m 20 #[.val (.ref o0), .val (.int p1)] [])) := q16.trans (by
          show Steps p.tables e below (s₁.setTop (mkF m 17 #[.val (.ref o0), .val (.int p1)] [(.int v15), (.int v12)])) _
          refine XS.icmpNo X0.here hx rfl (hb hby d2_17) rfl (teq hc17).2 ?_
          show Steps p.tables e below (s₁.setTop (mkF m 20 #[.val (.ref o0), .val (.int p1)] [])) _
          exact Steps.refl _)
      have q19 : Steps p.tables e below (s₁.setTop (entryFrame m #[(.ref o0), (.int p1)] 2)) (s₁.setTop (mkF m 21 #[.val (.ref o0), .val (.int p1)] [(.int (1 : Int32))])) := q18.trans (by
          show Steps p.tables e below (s₁.setTop (mkF m 20 #[.val (.ref o0), .val (.int p1)] [])) _
          refine XS.iconst X0.here hx rfl (hb hby d2_20) ?_
          show Steps p.tables e below (s₁.setTop (mkF m 21 #[.val (.ref o0), .val (.int p1)] [(.int (1 : Int32))])) _
          exact Steps.refl _)
      obtain rfl := Option.some.inj hM
      obtain ⟨fs, hr, hrun, hended, hW, hsame⟩ := X0.leave (v := some (.int (1 : Int32))) (fun h => by rw [Bd.returns] at h; cases h)
      refine ⟨_, _, q19.trans ?_, hrun, hended, _, _, rfl, ?_, ⟨_, rfl⟩, hW, hsame.mono (by decide) (by decide)⟩
      · exact retI X0 hx Bd.returns (hb hby d2_21) hr
      · show Q_rmF Z o0 p1 xs _ h0 n0 _ s₁.heap _
        rw [e0]
        exact ⟨rfl, N0, rfl⟩
    · rw [if_neg hc17] at hM
      have q20 : Steps p.tables e below (s₁.setTop (entryFrame m #[(.ref o0), (.int p1)] 2)) (s₁.setTop (mkF m 22 #[.val (.ref o0), .val (.int p1)] [])) := q16.trans (by
          show Steps p.tables e below (s₁.setTop (mkF m 17 #[.val (.ref o0), .val (.int p1)] [(.int v15), (.int v12)])) _
          refine XS.icmpYes X0.here hx rfl (pc0 := 17) (pc' := 22) rfl (hb hby d2_17) rfl (feq hc17).2 (by decide) (by decide) ?_
          show Steps p.tables e below (s₁.setTop (mkF m 22 #[.val (.ref o0), .val (.int p1)] [])) _
          exact Steps.refl _)
      have q21 : Steps p.tables e below (s₁.setTop (entryFrame m #[(.ref o0), (.int p1)] 2)) (s₁.setTop (mkF m 24 #[.val (.ref o0), .val (.int p1)] [(.int (2 : Int32)), (.ref o0)])) := q20.trans (by
          show Steps p.tables e below (s₁.setTop (mkF m 22 #[.val (.ref o0), .val (.int p1)] [])) _
          refine XS.aloadN X0.here hx rfl (hb hby d2_22) rfl rfl ?_
          show Steps p.tables e below (s₁.setTop (mkF m 23 #[.val (.ref o0), .val (.int p1)] [(.ref o0)])) _
          refine XS.iconst X0.here hx rfl (hb hby d2_23) ?_
          show Steps p.tables e below (s₁.setTop (mkF m 24 #[.val (.ref o0), .val (.int p1)] [(.int (2 : Int32)), (.ref o0)])) _
          exact Steps.refl _)
      obtain ⟨v22, hv22, hM⟩ := Option.bind_eq_some_iff.mp hM
      have q23 : Steps p.tables e below (s₁.setTop (entryFrame m #[(.ref o0), (.int p1)] 2)) (s₁.setTop (mkF m 25 #[.val (.ref o0), .val (.int p1)] [(.int v22)])) := q21.trans (Own.ldO X0 hx hZ e0 I_o0 hv22 (g := (mkF m 24 #[.val (.ref o0), .val (.int p1)] [(.int (2 : Int32)), (.ref o0)])) rfl rfl (hb hby d2_24) _ (Steps.refl _))
      have q24 : Steps p.tables e below (s₁.setTop (entryFrame m #[(.ref o0), (.int p1)] 2)) (s₁.setTop (mkF m 27 #[.val (.ref o0), .val (.int p1)] [(.int p1), (.ref o0), (.int v22)])) := q23.trans (by
          show Steps p.tables e below (s₁.setTop (mkF m 25 #[.val (.ref o0), .val (.int p1)] [(.int v22)])) _
          refine XS.aloadN X0.here hx rfl (hb hby d2_25) rfl rfl ?_
          show Steps p.tables e below (s₁.setTop (mkF m 26 #[.val (.ref o0), .val (.int p1)] [(.ref o0), (.int v22)])) _
          refine XS.iloadN X0.here hx rfl (hb hby d2_26) rfl ?_
          show Steps p.tables e below (s₁.setTop (mkF m 27 #[.val (.ref o0), .val (.int p1)] [(.int p1), (.ref o0), (.int v22)])) _
          exact Steps.refl _)
      obtain ⟨v25, hv25, hM⟩ := Option.bind_eq_some_iff.mp hM
      have q26 : Steps p.tables e below (s₁.setTop (entryFrame m #[(.ref o0), (.int p1)] 2)) (s₁.setTop (mkF m 28 #[.val (.ref o0), .val (.int p1)] [(.int v25), (.int v22)])) := q24.trans (Own.ldO X0 hx hZ e0 I_o0 hv25 (g := (mkF m 27 #[.val (.ref o0), .val (.int p1)] [(.int p1), (.ref o0), (.int v22)])) rfl rfl (hb hby d2_27) _ (Steps.refl _))
      by_cases hc27 : v22 = v25
      · rw [if_pos hc27] at hM
        have q28 : Steps p.tables e below (s₁.setTop (entryFrame m #[(.ref o0), (.int p1)] 2)) (s₁.setTop (mkF m 31 #[.val (.ref o0), .val (.int p1)] [])) := q26.trans (by
            show Steps p.tables e below (s₁.setTop (mkF m 28 #[.val (.ref o0), .val (.int p1)] [(.int v25), (.int v22)])) _
            refine XS.icmpNo X0.here hx rfl (hb hby d2_28) rfl (teq hc27).2 ?_
            show Steps p.tables e below (s₁.setTop (mkF m 31 #[.val (.ref o0), .val (.int p1)] [])) _
            exact Steps.refl _)
        have q29 : Steps p.tables e below (s₁.setTop (entryFrame m #[(.ref o0), (.int p1)] 2)) (s₁.setTop (mkF m 32 #[.val (.ref o0), .val (.int p1)] [(.int (2 : Int32))])) := q28.trans (by
            show Steps p.tables e below (s₁.setTop (mkF m 31 #[.val (.ref o0), .val (.int p1)] [])) _
            refine XS.iconst X0.here hx rfl (hb hby d2_31) ?_
            show Steps p.tables e below (s₁.setTop (mkF m 32 #[.val (.ref o0), .val (.int p1)] [(.int (2 : Int32))])) _
            exact Steps.refl _)
        obtain rfl := Option.some.inj hM
        obtain ⟨fs, hr, hrun, hended, hW, hsame⟩ := X0.leave (v := some (.int (2 : Int32))) (fun h => by rw [Bd.returns] at h; cases h)
        refine ⟨_, _, q29.trans ?_, hrun, hended, _, _, rfl, ?_, ⟨_, rfl⟩, hW, hsame.mono (by decide) (by decide)⟩
        · exact retI X0 hx Bd.returns (hb hby d2_32) hr
        · show Q_rmF Z o0 p1 xs _ h0 n0 _ s₁.heap _
          rw [e0]
          exact ⟨rfl, N0, rfl⟩
      · rw [if_neg hc27] at hM
        have q30 : Steps p.tables e below (s₁.setTop (entryFrame m #[(.ref o0), (.int p1)] 2)) (s₁.setTop (mkF m 33 #[.val (.ref o0), .val (.int p1)] [])) := q26.trans (by
            show Steps p.tables e below (s₁.setTop (mkF m 28 #[.val (.ref o0), .val (.int p1)] [(.int v25), (.int v22)])) _
            refine XS.icmpYes X0.here hx rfl (pc0 := 28) (pc' := 33) rfl (hb hby d2_28) rfl (feq hc27).2 (by decide) (by decide) ?_
            show Steps p.tables e below (s₁.setTop (mkF m 33 #[.val (.ref o0), .val (.int p1)] [])) _
            exact Steps.refl _)
        have q31 : Steps p.tables e below (s₁.setTop (entryFrame m #[(.ref o0), (.int p1)] 2)) (s₁.setTop (mkF m 34 #[.val (.ref o0), .val (.int p1)] [(.int (3 : Int32))])) := q30.trans (by
            show Steps p.tables e below (s₁.setTop (mkF m 33 #[.val (.ref o0), .val (.int p1)] [])) _
            refine XS.iconst X0.here hx rfl (hb hby d2_33) ?_
            show Steps p.tables e below (s₁.setTop (mkF m 34 #[.val (.ref o0), .val (.int p1)] [(.int (3 : Int32))])) _
            exact Steps.refl _)
        obtain rfl := Option.some.inj hM
        obtain ⟨fs, hr, hrun, hended, hW, hsame⟩ := X0.leave (v := some (.int (3 : Int32))) (fun h => by rw [Bd.returns] at h; cases h)
        refine ⟨_, _, q31.trans ?_, hrun, hended, _, _, rfl, ?_, ⟨_, rfl⟩, hW, hsame.mono (by decide) (by decide)⟩
        · exact retI X0 hx Bd.returns (hb hby d2_34) hr
        · show Q_rmF Z o0 p1 xs _ h0 n0 _ s₁.heap _
          rw [e0]
          exact ⟨rfl, N0, rfl⟩

theorem pd_0 : parseMethodDescriptor "([I[D)[D" = some ⟨[(.array .int), (.array .double)], some (.array .double)⟩ := by decide +kernel
theorem pd_1 : parseMethodDescriptor "([II)I" = some ⟨[(.array .int), .int], some .int⟩ := by decide +kernel
theorem pn_rm0 : plainName "com/example/pareto_workflow_scheduler/paretoworkflowscheduler/algorithm/ReferencePointsAlikePinLaw" = true := by first | (simp [plainName, overriddenIn]; done) | decide +kernel
theorem ef_rm0 (m : MethodId) (p0 : Int32) (p1 : Int32) (p2 : Int32) (p3 : Int32) (p4 : Int32) : entryFrame m #[(.int p0), (.int p1), (.int p2), (.int p3), (.int p4)] maxLocals = mkF m 0 #[.val (.int p0), .val (.int p1), .val (.int p2), .val (.int p3), .val (.int p4), .unset, .unset, .unset, .unset] [] := by first | (simp [entryFrame, mkF, argsToLocals, Value.category, maxLocals]; done) | rfl
def M_law (p0 : Int32) (p1 : Int32) (p2 : Int32) (p3 : Int32) (p4 : Int32) : Option (Int32) := (Own.mk 4 (4 : Int32)).bind fun y2 => (Own.wt y2 (0 : Int32) (p0 &&& (3 : Int32))).bind fun y6 => (Own.wt y6 (1 : Int32) (((p0.toUInt32 >>> ((2 : Int32) &&& 31).toUInt32).toInt32) &&& (3 : Int32))).bind fun y10 => (Own.wt y10 (2 : Int32) (((p0.toUInt32 >>> ((4 : Int32) &&& 31).toUInt32).toInt32) &&& (3 : Int32))).bind fun y14 => (Own.wt y14 (3 : Int32) (((p0.toUInt32 >>> ((6 : Int32) &&& 31).toUInt32).toInt32) &&& (3 : Int32))).bind fun y18 => (Own.mkD 4 (4 : Int32)).bind fun y22 => (Own.wtD y22 (0 : Int32) (FP.i2d p1)).bind fun y26 => (Own.wtD y26 (1 : Int32) (FP.i2d p2)).bind fun y30 => (Own.wtD y30 (2 : Int32) (FP.i2d p3)).bind fun y34 => (Own.wtD y34 (3 : Int32) (FP.i2d p4)).bind fun y38 => (M_alike y18 y38).bind fun r42 => (if (Own.lnD r42) = (4 : Int32) then (Own.rdD y38 (0 : Int32)).bind fun v49 => (if (cmpValue (FP.dcmp v49 (FP.i2d p1)) .l) = (0 : Int32) then (Own.rdD y38 (1 : Int32)).bind fun v56 => (if (cmpValue (FP.dcmp v56 (FP.i2d p2)) .l) = (0 : Int32) then (Own.rdD y38 (2 : Int32)).bind fun v63 => (if (cmpValue (FP.dcmp v63 (FP.i2d p3)) .l) = (0 : Int32) then (Own.rdD y38 (3 : Int32)).bind fun v70 => (if (cmpValue (FP.dcmp v70 (FP.i2d p4)) .l) = (0 : Int32) then (Own.rd y18 (0 : Int32)).bind fun v77 => (if v77 = (p0 &&& (3 : Int32)) then (Own.rd y18 (1 : Int32)).bind fun v84 => (if v84 = (((p0.toUInt32 >>> ((2 : Int32) &&& 31).toUInt32).toInt32) &&& (3 : Int32)) then (Own.rd y18 (2 : Int32)).bind fun v91 => (if v91 = (((p0.toUInt32 >>> ((4 : Int32) &&& 31).toUInt32).toInt32) &&& (3 : Int32)) then (Own.rd y18 (3 : Int32)).bind fun v98 => (some (if v98 = (((p0.toUInt32 >>> ((6 : Int32) &&& 31).toUInt32).toInt32) &&& (3 : Int32)) then (1 : Int32) else (0 : Int32))).bind fun v102 => (if v102 = (0 : Int32) then none else (Own.rdD r42 (0 : Int32)).bind fun v109 => (M_first (0 : Int32) y18).bind fun r112 => (Own.rdD y38 r112).bind fun v115 => (if (cmpValue (FP.dcmp v109 v115) .l) = (0 : Int32) then (Own.rdD r42 (1 : Int32)).bind fun v121 => (M_first (1 : Int32) y18).bind fun r124 => (Own.rdD y38 r124).bind fun v127 => (if (cmpValue (FP.dcmp v121 v127) .l) = (0 : Int32) then (Own.rdD r42 (2 : Int32)).bind fun v133 => (M_first (2 : Int32) y18).bind fun r136 => (Own.rdD y38 r136).bind fun v139 => (if (cmpValue (FP.dcmp v133 v139) .l) = (0 : Int32) then (Own.rdD r42 (3 : Int32)).bind fun v145 => (M_first (3 : Int32) y18).bind fun r148 => (Own.rdD y38 r148).bind fun v151 => (if (cmpValue (FP.dcmp v145 v151) .l) = (0 : Int32) then some (1 : Int32) else none) else none) else none) else none)) else none) else none) else none) else none) else none) else none) else none) else none)
def Q_rm0 (Z : State) (p0 : Int32) (p1 : Int32) (p2 : Int32) (p3 : Int32) (p4 : Int32) (out : Int32) (h0 : Heap) (n0 : Nat) (v : Option Value) (h : Heap) (L : List Loc) : Prop := v = some (.int out) ∧ Fr n0 L
set_option maxRecDepth 65536 in
set_option maxHeartbeats 40000000 in
theorem rm0 (l : Launch) (Z : State) (a0 : Array Value) (hw : ∀ d ∈ tables_1, d.before a0 Z = true) (ws : List Jvm.Cond) (p0 : Int32) (p1 : Int32) (p2 : Int32) (p3 : Int32) (p4 : Int32) (out : Int32) (h0 : Heap) (n0 : Nat) (Z0 : n0 ≤ h0.size) (hM : M_law p0 p1 p2 p3 p4 = some out) :
    MetFree l x (head1 (Jvm.Cond.code x code maxLocals ret :: ws) room_1) (fun a U => a = #[(.int p0), (.int p1), (.int p2), (.int p3), (.int p4)] ∧ Z.Warmed39 U.vm ∧ U.heap = h0) (fun _ _ _ _ _ => True) (fun _ U o U' => ∃ v L, o = .returned v ∧ Q_rm0 Z p0 p1 p2 p3 p4 out h0 n0 v U'.heap L ∧ FrameEnd U o U' L room_1.cells room_1.slots) := by
  refine MetFree.of_bodySF (plainFor_of_name pn_rm0) hisR ?_
  intro p e s m args below meth c s₁ Bd hml0 hP hK
  obtain ⟨rfl, hZ, hh⟩ := hP
  have hx := Bd.exec
  have hby := Bd.bytes
  have hml : c.maxLocals = 9 := hml0
  have hown : s.vm.findClass "com/example/pareto_workflow_scheduler/paretoworkflowscheduler/algorithm/ReferencePointsAlikePinLaw" = some m.cls := findClass_of_methodNamed Bd.named
  have hnm := (name_of_methodNamed Bd.named Bd.method).1
  have X0 : Stand p l e room_1 s m #[(.int p0), (.int p1), (.int p2), (.int p3), (.int p4)] below meth c s₁ [] 0 0 := Stand.of_body Bd
  have e0 : s₁.heap = h0 := by rw [← hh, Bd.state]; rfl
  have N0 := Fr.nil n0
  have q0 : Steps p.tables e below (s₁.setTop (entryFrame m #[(.int p0), (.int p1), (.int p2), (.int p3), (.int p4)] maxLocals)) (s₁.setTop (mkF m 0 #[.val (.int p0), .val (.int p1), .val (.int p2), .val (.int p3), .val (.int p4), .unset, .unset, .unset, .unset] [])) := castTop (ef_rm0 m p0 p1 p2 p3 p4) (Steps.refl _)
  unfold M_law at hM
  have q1 : Steps p.tables e below (s₁.setTop (entryFrame m #[(.int p0), (.int p1), (.int p2), (.int p3), (.int p4)] maxLocals)) (s₁.setTop (mkF m 1 #[.val (.int p0), .val (.int p1), .val (.int p2), .val (.int p3), .val (.int p4), .unset, .unset, .unset, .unset] [(.int (4 : Int32))])) := q0.trans (by
      show Steps p.tables e below (s₁.setTop (mkF m 0 #[.val (.int p0), .val (.int p1), .val (.int p2), .val (.int p3), .val (.int p4), .unset, .unset, .unset, .unset] [])) _
      refine XS.iconst X0.here hx rfl (hb hby at_0) ?_
      show Steps p.tables e below (s₁.setTop (mkF m 1 #[.val (.int p0), .val (.int p1), .val (.int p2), .val (.int p3), .val (.int p4), .unset, .unset, .unset, .unset] [(.int (4 : Int32))])) _
      exact Steps.refl _)
  obtain ⟨y2, hy2, hM⟩ := Option.bind_eq_some_iff.mp hM
  obtain ⟨T3, h3, k3, X3, e3, E3, A3, AE3, st3⟩ := newPE X0 hx hZ (hw _ (List.mem_of_getElem? (i := 0) rfl)) e0 (g := (mkF m 1 #[.val (.int p0), .val (.int p1), .val (.int p2), .val (.int p3), .val (.int p4), .unset, .unset, .unset, .unset] [(.int (4 : Int32))])) rfl (hb hby at_1) rfl (Own.mk_some hy2).1 (cap := 4) (Own.mk_some hy2).2.1 (by decide) (by decide) (by decide) (ad := "[I") (by decide)
  obtain ⟨ra, g3⟩ : ∃ z, z = h0.size := ⟨_, rfl⟩
  rw [← g3] at A3 AE3 st3
  have ge_ra : n0 ≤ ra := Nat.le_trans Z0 (Nat.le_of_eq g3.symm)
  have Z3 : n0 ≤ h3.size := Nat.le_trans Z0 E3.1
  have I_ra : Own.IA Z h3 ra y2 := (Own.mk_some hy2).2.2 ▸ Own.IA.new A3 rfl
  have q4 : Steps p.tables e below (s₁.setTop (entryFrame m #[(.int p0), (.int p1), (.int p2), (.int p3), (.int p4)] maxLocals)) (T3.setTop (mkF m 3 #[.val (.int p0), .val (.int p1), .val (.int p2), .val (.int p3), .val (.int p4), .unset, .unset, .unset, .unset] [(.ref ra)])) := q1.trans (st3 _ (Steps.refl _))
  have q5 : Steps p.tables e below (s₁.setTop (entryFrame m #[(.int p0), (.int p1), (.int p2), (.int p3), (.int p4)] maxLocals)) (T3.setTop (mkF m 11 #[.val (.int p0), .val (.int p1), .val (.int p2), .val (.int p3), .val (.int p4), .val (.ref ra), .unset, .unset, .unset] [(.int (p0 &&& (3 : Int32))), (.int (0 : Int32)), (.ref ra)])) := q4.trans (by
      show Steps p.tables e below (T3.setTop (mkF m 3 #[.val (.int p0), .val (.int p1), .val (.int p2), .val (.int p3), .val (.int p4), .unset, .unset, .unset, .unset] [(.ref ra)])) _
      refine XS.astore X3.here hx rfl (hb hby at_3) rfl rfl (l' := #[.val (.int p0), .val (.int p1), .val (.int p2), .val (.int p3), .val (.int p4), .val (.ref ra), .unset, .unset, .unset]) rfl ?_
      show Steps p.tables e below (T3.setTop (mkF m 5 #[.val (.int p0), .val (.int p1), .val (.int p2), .val (.int p3), .val (.int p4), .val (.ref ra), .unset, .unset, .unset] [])) _
      refine XS.aload X3.here hx rfl (hb hby at_5) rfl rfl ?_
      show Steps p.tables e below (T3.setTop (mkF m 7 #[.val (.int p0), .val (.int p1), .val (.int p2), .val (.int p3), .val (.int p4), .val (.ref ra), .unset, .unset, .unset] [(.ref ra)])) _
      refine XS.iconst X3.here hx rfl (hb hby at_7) ?_
      show Steps p.tables e below (T3.setTop (mkF m 8 #[.val (.int p0), .val (.int p1), .val (.int p2), .val (.int p3), .val (.int p4), .val (.ref ra), .unset, .unset, .unset] [(.int (0 : Int32)), (.ref ra)])) _
      refine XS.iloadN X3.here hx rfl (hb hby at_8) rfl ?_
      show Steps p.tables e below (T3.setTop (mkF m 9 #[.val (.int p0), .val (.int p1), .val (.int p2), .val (.int p3), .val (.int p4), .val (.ref ra), .unset, .unset, .unset] [(.int p0), (.int (0 : Int32)), (.ref ra)])) _
      refine XS.iconst X3.here hx rfl (hb hby at_9) ?_
      show Steps p.tables e below (T3.setTop (mkF m 10 #[.val (.int p0), .val (.int p1), .val (.int p2), .val (.int p3), .val (.int p4), .val (.ref ra), .unset, .unset, .unset] [(.int (3 : Int32)), (.int p0), (.int (0 : Int32)), (.ref ra)])) _
      refine XS.iand X3.here hx rfl (hb hby at_10) rfl ?_
      show Steps p.tables e below (T3.setTop (mkF m 11 #[.val (.int p0), .val (.int p1), .val (.int p2), .val (.int p3), .val (.int p4), .val (.ref ra), .unset, .unset, .unset] [(.int (p0 &&& (3 : Int32))), (.int (0 : Int32)), (.ref ra)])) _
      exact Steps.refl _)
  obtain ⟨y6, hy6, hM⟩ := Option.bind_eq_some_iff.mp hM
  obtain ⟨T7, h7, X7, e7, W7, J7, st7⟩ := Own.stO X3 hx hZ e3 I_ra hy6 (g := (mkF m 11 #[.val (.int p0), .val (.int p1), .val (.int p2), .val (.int p3), .val (.int p4), .val (.ref ra), .unset, .unset, .unset] [(.int (p0 &&& (3 : Int32))), (.int (0 : Int32)), (.ref ra)])) rfl rfl (hb hby at_11)
  have N7 := Fr.snoc X7 N0 ge_ra
  have Z7 : n0 ≤ h7.size := Own.size_wr W7 Z3
  have q8 : Steps p.tables e below (s₁.setTop (entryFrame m #[(.int p0), (.int p1), (.int p2), (.int p3), (.int p4)] maxLocals)) (T7.setTop (mkF m 12 #[.val (.int p0), .val (.int p1), .val (.int p2), .val (.int p3), .val (.int p4), .val (.ref ra), .unset, .unset, .unset] [])) := q5.trans (st7 _ (Steps.refl _))
  have q9 : Steps p.tables e below (s₁.setTop (entryFrame m #[(.int p0), (.int p1), (.int p2), (.int p3), (.int p4)] maxLocals)) (T7.setTop (mkF m 20 #[.val (.int p0), .val (.int p1), .val (.int p2), .val (.int p3), .val (.int p4), .val (.ref ra), .unset, .unset, .unset] [(.int (((p0.toUInt32 >>> ((2 : Int32) &&& 31).toUInt32).toInt32) &&& (3 : Int32))), (.int (1 : Int32)), (.ref ra)])) := q8.trans (by
      show Steps p.tables e below (T7.setTop (mkF m 12 #[.val (.int p0), .val (.int p1), .val (.int p2), .val (.int p3), .val (.int p4), .val (.ref ra), .unset, .unset, .unset] [])) _
      refine XS.aload X7.here hx rfl (hb hby at_12) rfl rfl ?_
      show Steps p.tables e below (T7.setTop (mkF m 14 #[.val (.int p0), .val (.int p1), .val (.int p2), .val (.int p3), .val (.int p4), .val (.ref ra), .unset, .unset, .unset] [(.ref ra)])) _
      refine XS.iconst X7.here hx rfl (hb hby at_14) ?_
      show Steps p.tables e below (T7.setTop (mkF m 15 #[.val (.int p0), .val (.int p1), .val (.int p2), .val (.int p3), .val (.int p4), .val (.ref ra), .unset, .unset, .unset] [(.int (1 : Int32)), (.ref ra)])) _
      refine XS.iloadN X7.here hx rfl (hb hby at_15) rfl ?_
      show Steps p.tables e below (T7.setTop (mkF m 16 #[.val (.int p0), .val (.int p1), .val (.int p2), .val (.int p3), .val (.int p4), .val (.ref ra), .unset, .unset, .unset] [(.int p0), (.int (1 : Int32)), (.ref ra)])) _
      refine XS.iconst X7.here hx rfl (hb hby at_16) ?_
      show Steps p.tables e below (T7.setTop (mkF m 17 #[.val (.int p0), .val (.int p1), .val (.int p2), .val (.int p3), .val (.int p4), .val (.ref ra), .unset, .unset, .unset] [(.int (2 : Int32)), (.int p0), (.int (1 : Int32)), (.ref ra)])) _
      refine XS.iushr X7.here hx rfl (hb hby at_17) rfl ?_
      show Steps p.tables e below (T7.setTop (mkF m 18 #[.val (.int p0), .val (.int p1), .val (.int p2), .val (.int p3), .val (.int p4), .val (.ref ra), .unset, .unset, .unset] [(.int ((p0.toUInt32 >>> ((2 : Int32) &&& 31).toUInt32).toInt32)), (.int (1 : Int32)), (.ref ra)])) _
      refine XS.iconst X7.here hx rfl (hb hby at_18) ?_
      show Steps p.tables e below (T7.setTop (mkF m 19 #[.val (.int p0), .val (.int p1), .val (.int p2), .val (.int p3), .val (.int p4), .val (.ref ra), .unset, .unset, .unset] [(.int (3 : Int32)), (.int ((p0.toUInt32 >>> ((2 : Int32) &&& 31).toUInt32).toInt32)), (.int (1 : Int32)), (.ref ra)])) _
      refine XS.iand X7.here hx rfl (hb hby at_19) rfl ?_
      show Steps p.tables e below (T7.setTop (mkF m 20 #[.val (.int p0), .val (.int p1), .val (.int p2), .val (.int p3), .val (.int p4), .val (.ref ra), .unset, .unset, .unset] [(.int (((p0.toUInt32 >>> ((2 : Int32) &&& 31).toUInt32).toInt32) &&& (3 : Int32))), (.int (1 : Int32)), (.ref ra)])) _
      exact Steps.refl _)
  obtain ⟨y10, hy10, hM⟩ := Option.bind_eq_some_iff.mp hM
  obtain ⟨T11, h11, X11, e11, W11, J11, st11⟩ := Own.stO X7 hx hZ e7 J7 hy10 (g := (mkF m 20 #[.val (.int p0), .val (.int p1), .val (.int p2), .val (.int p3), .val (.int p4), .val (.ref ra), .unset, .unset, .unset] [(.int (((p0.toUInt32 >>> ((2 : Int32) &&& 31).toUInt32).toInt32) &&& (3 : Int32))), (.int (1 : Int32)), (.ref ra)])) rfl rfl (hb hby at_20)
  have N11 := Fr.snoc X11 N7 ge_ra
  have Z11 : n0 ≤ h11.size := Own.size_wr W11 Z7
  have q12 : Steps p.tables e below (s₁.setTop (entryFrame m #[(.int p0), (.int p1), (.int p2), (.int p3), (.int p4)] maxLocals)) (T11.setTop (mkF m 21 #[.val (.int p0), .val (.int p1), .val (.int p2), .val (.int p3), .val (.int p4), .val (.ref ra), .unset, .unset, .unset] [])) := q9.trans (st11 _ (Steps.refl _))
  have q13 : Steps p.tables e below (s₁.setTop (entryFrame m #[(.int p0), (.int p1), (.int p2), (.int p3), (.int p4)] maxLocals)) (T11.setTop (mkF m 29 #[.val (.int p0), .val (.int p1), .val (.int p2), .val (.int p3), .val (.int p4), .val (.ref ra), .unset, .unset, .unset] [(.int (((p0.toUInt32 >>> ((4 : Int32) &&& 31).toUInt32).toInt32) &&& (3 : Int32))), (.int (2 : Int32)), (.ref ra)])) := q12.trans (by
      show Steps p.tables e below (T11.setTop (mkF m 21 #[.val (.int p0), .val (.int p1), .val (.int p2), .val (.int p3), .val (.int p4), .val (.ref ra), .unset, .unset, .unset] [])) _
      refine XS.aload X11.here hx rfl (hb hby at_21) rfl rfl ?_
      show Steps p.tables e below (T11.setTop (mkF m 23 #[.val (.int p0), .val (.int p1), .val (.int p2), .val (.int p3), .val (.int p4), .val (.ref ra), .unset, .unset, .unset] [(.ref ra)])) _
      refine XS.iconst X11.here hx rfl (hb hby at_23) ?_
      show Steps p.tables e below (T11.setTop (mkF m 24 #[.val (.int p0), .val (.int p1), .val (.int p2), .val (.int p3), .val (.int p4), .val (.ref ra), .unset, .unset, .unset] [(.int (2 : Int32)), (.ref ra)])) _
      refine XS.iloadN X11.here hx rfl (hb hby at_24) rfl ?_
      show Steps p.tables e below (T11.setTop (mkF m 25 #[.val (.int p0), .val (.int p1), .val (.int p2), .val (.int p3), .val (.int p4), .val (.ref ra), .unset, .unset, .unset] [(.int p0), (.int (2 : Int32)), (.ref ra)])) _
      refine XS.iconst X11.here hx rfl (hb hby at_25) ?_
      show Steps p.tables e below (T11.setTop (mkF m 26 #[.val (.int p0), .val (.int p1), .val (.int p2), .val (.int p3), .val (.int p4), .val (.ref ra), .unset, .unset, .unset] [(.int (4 : Int32)), (.int p0), (.int (2 : Int32)), (.ref ra)])) _
      refine XS.iushr X11.here hx rfl (hb hby at_26) rfl ?_
      show Steps p.tables e below (T11.setTop (mkF m 27 #[.val (.int p0), .val (.int p1), .val (.int p2), .val (.int p3), .val (.int p4), .val (.ref ra), .unset, .unset, .unset] [(.int ((p0.toUInt32 >>> ((4 : Int32) &&& 31).toUInt32).toInt32)), (.int (2 : Int32)), (.ref ra)])) _
      refine XS.iconst X11.here hx rfl (hb hby at_27) ?_
      show Steps p.tables e below (T11.setTop (mkF m 28 #[.val (.int p0), .val (.int p1), .val (.int p2), .val (.int p3), .val (.int p4), .val (.ref ra), .unset, .unset, .unset] [(.int (3 : Int32)), (.int ((p0.toUInt32 >>> ((4 : Int32) &&& 31).toUInt32).toInt32)), (.int (2 : Int32)), (.ref ra)])) _
      refine XS.iand X11.here hx rfl (hb hby at_28) rfl ?_
      show Steps p.tables e below (T11.setTop (mkF m 29 #[.val (.int p0), .val (.int p1), .val (.int p2), .val (.int p3), .val (.int p4), .val (.ref ra), .unset, .unset, .unset] [(.int (((p0.toUInt32 >>> ((4 : Int32) &&& 31).toUInt32).toInt32) &&& (3 : Int32))), (.int (2 : Int32)), (.ref ra)])) _
      exact Steps.refl _)
  obtain ⟨y14, hy14, hM⟩ := Option.bind_eq_some_iff.mp hM
  obtain ⟨T15, h15, X15, e15, W15, J15, st15⟩ := Own.stO X11 hx hZ e11 J11 hy14 (g := (mkF m 29 #[.val (.int p0), .val (.int p1), .val (.int p2), .val (.int p3), .val (.int p4), .val (.ref ra), .unset, .unset, .unset] [(.int (((p0.toUInt32 >>> ((4 : Int32) &&& 31).toUInt32).toInt32) &&& (3 : Int32))), (.int (2 : Int32)), (.ref ra)])) rfl rfl (hb hby at_29)
  have N15 := Fr.snoc X15 N11 ge_ra
  have Z15 : n0 ≤ h15.size := Own.size_wr W15 Z11
  have q16 : Steps p.tables e below (s₁.setTop (entryFrame m #[(.int p0), (.int p1), (.int p2), (.int p3), (.int p4)] maxLocals)) (T15.setTop (mkF m 30 #[.val (.int p0), .val (.int p1), .val (.int p2), .val (.int p3), .val (.int p4), .val (.ref ra), .unset, .unset, .unset] [])) := q13.trans (st15 _ (Steps.refl _))
  have q17 : Steps p.tables e below (s₁.setTop (entryFrame m #[(.int p0), (.int p1), (.int p2), (.int p3), (.int p4)] maxLocals)) (T15.setTop (mkF m 39 #[.val (.int p0), .val (.int p1), .val (.int p2), .val (.int p3), .val (.int p4), .val (.ref ra), .unset, .unset, .unset] [(.int (((p0.toUInt32 >>> ((6 : Int32) &&& 31).toUInt32).toInt32) &&& (3 : Int32))), (.int (3 : Int32)), (.ref ra)])) := q16.trans (by
      show Steps p.tables e below (T15.setTop (mkF m 30 #[.val (.int p0), .val (.int p1), .val (.int p2), .val (.int p3), .val (.int p4), .val (.ref ra), .unset, .unset, .unset] [])) _
      refine XS.aload X15.here hx rfl (hb hby at_30) rfl rfl ?_
      show Steps p.tables e below (T15.setTop (mkF m 32 #[.val (.int p0), .val (.int p1), .val (.int p2), .val (.int p3), .val (.int p4), .val (.ref ra), .unset, .unset, .unset] [(.ref ra)])) _
      refine XS.iconst X15.here hx rfl (hb hby at_32) ?_
      show Steps p.tables e below (T15.setTop (mkF m 33 #[.val (.int p0), .val (.int p1), .val (.int p2), .val (.int p3), .val (.int p4), .val (.ref ra), .unset, .unset, .unset] [(.int (3 : Int32)), (.ref ra)])) _
      refine XS.iloadN X15.here hx rfl (hb hby at_33) rfl ?_
      show Steps p.tables e below (T15.setTop (mkF m 34 #[.val (.int p0), .val (.int p1), .val (.int p2), .val (.int p3), .val (.int p4), .val (.ref ra), .unset, .unset, .unset] [(.int p0), (.int (3 : Int32)), (.ref ra)])) _
      refine XS.bipush X15.here hx rfl (hb hby at_34) ?_
      show Steps p.tables e below (T15.setTop (mkF m 36 #[.val (.int p0), .val (.int p1), .val (.int p2), .val (.int p3), .val (.int p4), .val (.ref ra), .unset, .unset, .unset] [(.int (6 : Int32)), (.int p0), (.int (3 : Int32)), (.ref ra)])) _
      refine XS.iushr X15.here hx rfl (hb hby at_36) rfl ?_
      show Steps p.tables e below (T15.setTop (mkF m 37 #[.val (.int p0), .val (.int p1), .val (.int p2), .val (.int p3), .val (.int p4), .val (.ref ra), .unset, .unset, .unset] [(.int ((p0.toUInt32 >>> ((6 : Int32) &&& 31).toUInt32).toInt32)), (.int (3 : Int32)), (.ref ra)])) _
      refine XS.iconst X15.here hx rfl (hb hby at_37) ?_
      show Steps p.tables e below (T15.setTop (mkF m 38 #[.val (.int p0), .val (.int p1), .val (.int p2), .val (.int p3), .val (.int p4), .val (.ref ra), .unset, .unset, .unset] [(.int (3 : Int32)), (.int ((p0.toUInt32 >>> ((6 : Int32) &&& 31).toUInt32).toInt32)), (.int (3 : Int32)), (.ref ra)])) _
      refine XS.iand X15.here hx rfl (hb hby at_38) rfl ?_
      show Steps p.tables e below (T15.setTop (mkF m 39 #[.val (.int p0), .val (.int p1), .val (.int p2), .val (.int p3), .val (.int p4), .val (.ref ra), .unset, .unset, .unset] [(.int (((p0.toUInt32 >>> ((6 : Int32) &&& 31).toUInt32).toInt32) &&& (3 : Int32))), (.int (3 : Int32)), (.ref ra)])) _
      exact Steps.refl _)
  obtain ⟨y18, hy18, hM⟩ := Option.bind_eq_some_iff.mp hM
  obtain ⟨T19, h19, X19, e19, W19, J19, st19⟩ := Own.stO X15 hx hZ e15 J15 hy18 (g := (mkF m 39 #[.val (.int p0), .val (.int p1), .val (.int p2), .val (.int p3), .val (.int p4), .val (.ref ra), .unset, .unset, .unset] [(.int (((p0.toUInt32 >>> ((6 : Int32) &&& 31).toUInt32).toInt32) &&& (3 : Int32))), (.int (3 : Int32)), (.ref ra)])) rfl rfl (hb hby at_39)
  have N19 := Fr.snoc X19 N15 ge_ra
  have Z19 : n0 ≤ h19.size := Own.size_wr W19 Z15
  have q20 : Steps p.tables e below (s₁.setTop (entryFrame m #[(.int p0), (.int p1), (.int p2), (.int p3), (.int p4)] maxLocals)) (T19.setTop (mkF m 40 #[.val (.int p0), .val (.int p1), .val (.int p2), .val (.int p3), .val (.int p4), .val (.ref ra), .unset, .unset, .unset] [])) := q17.trans (st19 _ (Steps.refl _))
  have q21 : Steps p.tables e below (s₁.setTop (entryFrame m #[(.int p0), (.int p1), (.int p2), (.int p3), (.int p4)] maxLocals)) (T19.setTop (mkF m 41 #[.val (.int p0), .val (.int p1), .val (.int p2), .val (.int p3), .val (.int p4), .val (.ref ra), .unset, .unset, .unset] [(.int (4 : Int32))])) := q20.trans (by
      show Steps p.tables e below (T19.setTop (mkF m 40 #[.val (.int p0), .val (.int p1), .val (.int p2), .val (.int p3), .val (.int p4), .val (.ref ra), .unset, .unset, .unset] [])) _
      refine XS.iconst X19.here hx rfl (hb hby at_40) ?_
      show Steps p.tables e below (T19.setTop (mkF m 41 #[.val (.int p0), .val (.int p1), .val (.int p2), .val (.int p3), .val (.int p4), .val (.ref ra), .unset, .unset, .unset] [(.int (4 : Int32))])) _
      exact Steps.refl _)
  obtain ⟨y22, hy22, hM⟩ := Option.bind_eq_some_iff.mp hM
  obtain ⟨T23, h23, k23, X23, e23, E23, A23, st23⟩ := newP X19 hx hZ (hw _ (List.mem_of_getElem? (i := 1) rfl)) e19 (g := (mkF m 41 #[.val (.int p0), .val (.int p1), .val (.int p2), .val (.int p3), .val (.int p4), .val (.ref ra), .unset, .unset, .unset] [(.int (4 : Int32))])) rfl (hb hby at_41) rfl (Own.mkD_some hy22).1 (cap := 4) (Own.mkD_some hy22).2.1 (by decide) (by decide) (by decide)
  obtain ⟨va, g23⟩ : ∃ z, z = h19.size := ⟨_, rfl⟩
  rw [← g23] at A23 st23
  have ge_va : n0 ≤ va := Nat.le_trans Z19 (Nat.le_of_eq g23.symm)
  have ne_ra_va : ra ≠ va := Nat.ne_of_lt (Nat.lt_of_lt_of_le J19.lt (Nat.le_of_eq g23.symm))
  have Ira_23 := J19.ext E23
  have Z23 : n0 ≤ h23.size := Nat.le_trans Z19 E23.1
  have I_va : Own.DA Z h23 va y22 := (Own.mkD_some hy22).2.2 ▸ Own.DA.new A23 rfl
  have q24 : Steps p.tables e below (s₁.setTop (entryFrame m #[(.int p0), (.int p1), (.int p2), (.int p3), (.int p4)] maxLocals)) (T23.setTop (mkF m 43 #[.val (.int p0), .val (.int p1), .val (.int p2), .val (.int p3), .val (.int p4), .val (.ref ra), .unset, .unset, .unset] [(.ref va)])) := q21.trans (st23 _ (Steps.refl _))
  have q25 : Steps p.tables e below (s₁.setTop (entryFrame m #[(.int p0), (.int p1), (.int p2), (.int p3), (.int p4)] maxLocals)) (T23.setTop (mkF m 50 #[.val (.int p0), .val (.int p1), .val (.int p2), .val (.int p3), .val (.int p4), .val (.ref ra), .val (.ref va), .unset, .unset] [(.double (FP.i2d p1)), (.int (0 : Int32)), (.ref va)])) := q24.trans (by
      show Steps p.tables e below (T23.setTop (mkF m 43 #[.val (.int p0), .val (.int p1), .val (.int p2), .val (.int p3), .val (.int p4), .val (.ref ra), .unset, .unset, .unset] [(.ref va)])) _
      refine XS.astore X23.here hx rfl (hb hby at_43) rfl rfl (l' := #[.val (.int p0), .val (.int p1), .val (.int p2), .val (.int p3), .val (.int p4), .val (.ref ra), .val (.ref va), .unset, .unset]) rfl ?_
      show Steps p.tables e below (T23.setTop (mkF m 45 #[.val (.int p0), .val (.int p1), .val (.int p2), .val (.int p3), .val (.int p4), .val (.ref ra), .val (.ref va), .unset, .unset] [])) _
      refine XS.aload X23.here hx rfl (hb hby at_45) rfl rfl ?_
      show Steps p.tables e below (T23.setTop (mkF m 47 #[.val (.int p0), .val (.int p1), .val (.int p2), .val (.int p3), .val (.int p4), .val (.ref ra), .val (.ref va), .unset, .unset] [(.ref va)])) _
      refine XS.iconst X23.here hx rfl (hb hby at_47) ?_
      show Steps p.tables e below (T23.setTop (mkF m 48 #[.val (.int p0), .val (.int p1), .val (.int p2), .val (.int p3), .val (.int p4), .val (.ref ra), .val (.ref va), .unset, .unset] [(.int (0 : Int32)), (.ref va)])) _
      refine XS.iloadN X23.here hx rfl (hb hby at_48) rfl ?_
      show Steps p.tables e below (T23.setTop (mkF m 49 #[.val (.int p0), .val (.int p1), .val (.int p2), .val (.int p3), .val (.int p4), .val (.ref ra), .val (.ref va), .unset, .unset] [(.int p1), (.int (0 : Int32)), (.ref va)])) _
      refine XS.i2dS X23.here hx rfl (hb hby at_49) rfl rfl ?_
      show Steps p.tables e below (T23.setTop (mkF m 50 #[.val (.int p0), .val (.int p1), .val (.int p2), .val (.int p3), .val (.int p4), .val (.ref ra), .val (.ref va), .unset, .unset] [(.double (FP.i2d p1)), (.int (0 : Int32)), (.ref va)])) _
      exact Steps.refl _)
  obtain ⟨y26, hy26, hM⟩ := Option.bind_eq_some_iff.mp hM
  obtain ⟨T27, h27, X27, e27, W27, J27, st27⟩ := Own.stDO X23 hx hZ e23 I_va hy26 (g := (mkF m 50 #[.val (.int p0), .val (.int p1), .val (.int p2), .val (.int p3), .val (.int p4), .val (.ref ra), .val (.ref va), .unset, .unset] [(.double (FP.i2d p1)), (.int (0 : Int32)), (.ref va)])) rfl rfl (hb hby at_50)
  have N27 := Fr.snoc X27 N19 ge_va
  have Ira_27 := Ira_23.other W27 ne_ra_va
  have Z27 : n0 ≤ h27.size := Own.size_wr W27 Z23
  have q28 : Steps p.tables e below (s₁.setTop (entryFrame m #[(.int p0), (.int p1), (.int p2), (.int p3), (.int p4)] maxLocals)) (T27.setTop (mkF m 51 #[.val (.int p0), .val (.int p1), .val (.int p2), .val (.int p3), .val (.int p4), .val (.ref ra), .val (.ref va), .unset, .unset] [])) := q25.trans (st27 _ (Steps.refl _))
  have q29 : Steps p.tables e below (s₁.setTop (entryFrame m #[(.int p0), (.int p1), (.int p2), (.int p3), (.int p4)] maxLocals)) (T27.setTop (mkF m 56 #[.val (.int p0), .val (.int p1), .val (.int p2), .val (.int p3), .val (.int p4), .val (.ref ra), .val (.ref va), .unset, .unset] [(.double (FP.i2d p2)), (.int (1 : Int32)), (.ref va)])) := q28.trans (by
      show Steps p.tables e below (T27.setTop (mkF m 51 #[.val (.int p0), .val (.int p1), .val (.int p2), .val (.int p3), .val (.int p4), .val (.ref ra), .val (.ref va), .unset, .unset] [])) _
      refine XS.aload X27.here hx rfl (hb hby at_51) rfl rfl ?_
      show Steps p.tables e below (T27.setTop (mkF m 53 #[.val (.int p0), .val (.int p1), .val (.int p2), .val (.int p3), .val (.int p4), .val (.ref ra), .val (.ref va), .unset, .unset] [(.ref va)])) _
      refine XS.iconst X27.here hx rfl (hb hby at_53) ?_
      show Steps p.tables e below (T27.setTop (mkF m 54 #[.val (.int p0), .val (.int p1), .val (.int p2), .val (.int p3), .val (.int p4), .val (.ref ra), .val (.ref va), .unset, .unset] [(.int (1 : Int32)), (.ref va)])) _
      refine XS.iloadN X27.here hx rfl (hb hby at_54) rfl ?_
      show Steps p.tables e below (T27.setTop (mkF m 55 #[.val (.int p0), .val (.int p1), .val (.int p2), .val (.int p3), .val (.int p4), .val (.ref ra), .val (.ref va), .unset, .unset] [(.int p2), (.int (1 : Int32)), (.ref va)])) _
      refine XS.i2dS X27.here hx rfl (hb hby at_55) rfl rfl ?_
      show Steps p.tables e below (T27.setTop (mkF m 56 #[.val (.int p0), .val (.int p1), .val (.int p2), .val (.int p3), .val (.int p4), .val (.ref ra), .val (.ref va), .unset, .unset] [(.double (FP.i2d p2)), (.int (1 : Int32)), (.ref va)])) _
      exact Steps.refl _)
  obtain ⟨y30, hy30, hM⟩ := Option.bind_eq_some_iff.mp hM
  obtain ⟨T31, h31, X31, e31, W31, J31, st31⟩ := Own.stDO X27 hx hZ e27 J27 hy30 (g := (mkF m 56 #[.val (.int p0), .val (.int p1), .val (.int p2), .val (.int p3), .val (.int p4), .val (.ref ra), .val (.ref va), .unset, .unset] [(.double (FP.i2d p2)), (.int (1 : Int32)), (.ref va)])) rfl rfl (hb hby at_56)
  have N31 := Fr.snoc X31 N27 ge_va
  have Ira_31 := Ira_27.other W31 ne_ra_va
  have Z31 : n0 ≤ h31.size := Own.size_wr W31 Z27
  have q32 : Steps p.tables e below (s₁.setTop (entryFrame m #[(.int p0), (.int p1), (.int p2), (.int p3), (.int p4)] maxLocals)) (T31.setTop (mkF m 57 #[.val (.int p0), .val (.int p1), .val (.int p2), .val (.int p3), .val (.int p4), .val (.ref ra), .val (.ref va), .unset, .unset] [])) := q29.trans (st31 _ (Steps.refl _))
  have q33 : Steps p.tables e below (s₁.setTop (entryFrame m #[(.int p0), (.int p1), (.int p2), (.int p3), (.int p4)] maxLocals)) (T31.setTop (mkF m 62 #[.val (.int p0), .val (.int p1), .val (.int p2), .val (.int p3), .val (.int p4), .val (.ref ra), .val (.ref va), .unset, .unset] [(.double (FP.i2d p3)), (.int (2 : Int32)), (.ref va)])) := q32.trans (by
      show Steps p.tables e below (T31.setTop (mkF m 57 #[.val (.int p0), .val (.int p1), .val (.int p2), .val (.int p3), .val (.int p4), .val (.ref ra), .val (.ref va), .unset, .unset] [])) _
      refine XS.aload X31.here hx rfl (hb hby at_57) rfl rfl ?_
      show Steps p.tables e below (T31.setTop (mkF m 59 #[.val (.int p0), .val (.int p1), .val (.int p2), .val (.int p3), .val (.int p4), .val (.ref ra), .val (.ref va), .unset, .unset] [(.ref va)])) _
      refine XS.iconst X31.here hx rfl (hb hby at_59) ?_
      show Steps p.tables e below (T31.setTop (mkF m 60 #[.val (.int p0), .val (.int p1), .val (.int p2), .val (.int p3), .val (.int p4), .val (.ref ra), .val (.ref va), .unset, .unset] [(.int (2 : Int32)), (.ref va)])) _
      refine XS.iloadN X31.here hx rfl (hb hby at_60) rfl ?_
      show Steps p.tables e below (T31.setTop (mkF m 61 #[.val (.int p0), .val (.int p1), .val (.int p2), .val (.int p3), .val (.int p4), .val (.ref ra), .val (.ref va), .unset, .unset] [(.int p3), (.int (2 : Int32)), (.ref va)])) _
      refine XS.i2dS X31.here hx rfl (hb hby at_61) rfl rfl ?_
      show Steps p.tables e below (T31.setTop (mkF m 62 #[.val (.int p0), .val (.int p1), .val (.int p2), .val (.int p3), .val (.int p4), .val (.ref ra), .val (.ref va), .unset, .unset] [(.double (FP.i2d p3)), (.int (2 : Int32)), (.ref va)])) _
      exact Steps.refl _)
  obtain ⟨y34, hy34, hM⟩ := Option.bind_eq_some_iff.mp hM
  obtain ⟨T35, h35, X35, e35, W35, J35, st35⟩ := Own.stDO X31 hx hZ e31 J31 hy34 (g := (mkF m 62 #[.val (.int p0), .val (.int p1), .val (.int p2), .val (.int p3), .val (.int p4), .val (.ref ra), .val (.ref va), .unset, .unset] [(.double (FP.i2d p3)), (.int (2 : Int32)), (.ref va)])) rfl rfl (hb hby at_62)
  have N35 := Fr.snoc X35 N31 ge_va
  have Ira_35 := Ira_31.other W35 ne_ra_va
  have Z35 : n0 ≤ h35.size := Own.size_wr W35 Z31
  have q36 : Steps p.tables e below (s₁.setTop (entryFrame m #[(.int p0), (.int p1), (.int p2), (.int p3), (.int p4)] maxLocals)) (T35.setTop (mkF m 63 #[.val (.int p0), .val (.int p1), .val (.int p2), .val (.int p3), .val (.int p4), .val (.ref ra), .val (.ref va), .unset, .unset] [])) := q33.trans (st35 _ (Steps.refl _))
  have q37 : Steps p.tables e below (s₁.setTop (entryFrame m #[(.int p0), (.int p1), (.int p2), (.int p3), (.int p4)] maxLocals)) (T35.setTop (mkF m 69 #[.val (.int p0), .val (.int p1), .val (.int p2), .val (.int p3), .val (.int p4), .val (.ref ra), .val (.ref va), .unset, .unset] [(.double (FP.i2d p4)), (.int (3 : Int32)), (.ref va)])) := q36.trans (by
      show Steps p.tables e below (T35.setTop (mkF m 63 #[.val (.int p0), .val (.int p1), .val (.int p2), .val (.int p3), .val (.int p4), .val (.ref ra), .val (.ref va), .unset, .unset] [])) _
      refine XS.aload X35.here hx rfl (hb hby at_63) rfl rfl ?_
      show Steps p.tables e below (T35.setTop (mkF m 65 #[.val (.int p0), .val (.int p1), .val (.int p2), .val (.int p3), .val (.int p4), .val (.ref ra), .val (.ref va), .unset, .unset] [(.ref va)])) _
      refine XS.iconst X35.here hx rfl (hb hby at_65) ?_
      show Steps p.tables e below (T35.setTop (mkF m 66 #[.val (.int p0), .val (.int p1), .val (.int p2), .val (.int p3), .val (.int p4), .val (.ref ra), .val (.ref va), .unset, .unset] [(.int (3 : Int32)), (.ref va)])) _
      refine XS.iload X35.here hx rfl (hb hby at_66) rfl ?_
      show Steps p.tables e below (T35.setTop (mkF m 68 #[.val (.int p0), .val (.int p1), .val (.int p2), .val (.int p3), .val (.int p4), .val (.ref ra), .val (.ref va), .unset, .unset] [(.int p4), (.int (3 : Int32)), (.ref va)])) _
      refine XS.i2dS X35.here hx rfl (hb hby at_68) rfl rfl ?_
      show Steps p.tables e below (T35.setTop (mkF m 69 #[.val (.int p0), .val (.int p1), .val (.int p2), .val (.int p3), .val (.int p4), .val (.ref ra), .val (.ref va), .unset, .unset] [(.double (FP.i2d p4)), (.int (3 : Int32)), (.ref va)])) _
      exact Steps.refl _)
  obtain ⟨y38, hy38, hM⟩ := Option.bind_eq_some_iff.mp hM
  obtain ⟨T39, h39, X39, e39, W39, J39, st39⟩ := Own.stDO X35 hx hZ e35 J35 hy38 (g := (mkF m 69 #[.val (.int p0), .val (.int p1), .val (.int p2), .val (.int p3), .val (.int p4), .val (.ref ra), .val (.ref va), .unset, .unset] [(.double (FP.i2d p4)), (.int (3 : Int32)), (.ref va)])) rfl rfl (hb hby at_69)
  have N39 := Fr.snoc X39 N35 ge_va
  have Ira_39 := Ira_35.other W39 ne_ra_va
  have Z39 : n0 ≤ h39.size := Own.size_wr W39 Z35
  have q40 : Steps p.tables e below (s₁.setTop (entryFrame m #[(.int p0), (.int p1), (.int p2), (.int p3), (.int p4)] maxLocals)) (T39.setTop (mkF m 70 #[.val (.int p0), .val (.int p1), .val (.int p2), .val (.int p3), .val (.int p4), .val (.ref ra), .val (.ref va), .unset, .unset] [])) := q37.trans (st39 _ (Steps.refl _))
  have q41 : Steps p.tables e below (s₁.setTop (entryFrame m #[(.int p0), (.int p1), (.int p2), (.int p3), (.int p4)] maxLocals)) (T39.setTop (mkF m 74 #[.val (.int p0), .val (.int p1), .val (.int p2), .val (.int p3), .val (.int p4), .val (.ref ra), .val (.ref va), .unset, .unset] [(.ref va), (.ref ra)])) := q40.trans (by
      show Steps p.tables e below (T39.setTop (mkF m 70 #[.val (.int p0), .val (.int p1), .val (.int p2), .val (.int p3), .val (.int p4), .val (.ref ra), .val (.ref va), .unset, .unset] [])) _
      refine XS.aload X39.here hx rfl (hb hby at_70) rfl rfl ?_
      show Steps p.tables e below (T39.setTop (mkF m 72 #[.val (.int p0), .val (.int p1), .val (.int p2), .val (.int p3), .val (.int p4), .val (.ref ra), .val (.ref va), .unset, .unset] [(.ref ra)])) _
      refine XS.aload X39.here hx rfl (hb hby at_72) rfl rfl ?_
      show Steps p.tables e below (T39.setTop (mkF m 74 #[.val (.int p0), .val (.int p1), .val (.int p2), .val (.int p3), .val (.int p4), .val (.ref ra), .val (.ref va), .unset, .unset] [(.ref va), (.ref ra)])) _
      exact Steps.refl _)
  obtain ⟨r42, hr42, hM⟩ := Option.bind_eq_some_iff.mp hM
  obtain ⟨_, _, ⟨T43, L43, k43, n43⟩, -, X43, ⟨Lc43, hQ43, l43, y43, z43⟩, st43⟩ := Jvm.LawKit.callS X39 hx (y := (⟨"com/example/pareto_workflow_scheduler/paretoworkflowscheduler/algorithm/ReferencePoints", "alike", "([I[D)[D"⟩ : MethodName)) hown (mvT hZ (hw _ (List.mem_of_getElem? (i := 2) rfl))) (mvT hZ (hw _ (List.mem_of_getElem? (i := 3) rfl))) (mvT hZ (hw _ (List.mem_of_getElem? (i := 4) rfl))) (mvT hZ (hw _ (List.mem_of_getElem? (i := 5) rfl))) (by decide) (backOf (W := 0) (rmA l Z a0 hw [] ra va y18 y38 r42 h39 n0 Z39 Ira_39 J39 hr42) hZ (hw _ (List.mem_of_getElem? (i := 5) rfl)) (hw _ (List.mem_of_getElem? (i := 4) rfl)) (by decide) (by decide)) (g := (mkF m 74 #[.val (.int p0), .val (.int p1), .val (.int p2), .val (.int p3), .val (.int p4), .val (.ref ra), .val (.ref va), .unset, .unset] [(.ref va), (.ref ra)])) rfl (by rw [hml]; rfl) (argsL := [(.ref ra), (.ref va)]) (rest := []) (lenOf pd_0 rfl) rfl (by show 2 * 0 + _ ≤ _; exact Nat.le_of_eq rfl) (hb hby at_74) (fun _ _ => ⟨rfl, e39, (by decide : 2 + 3 ≤ _), (by decide : 8 + 12 ≤ _)⟩)
  dsimp only [Pt.U, Pt.locs, Pt.cells, Pt.slots] at X43 l43 y43 z43 st43 hQ43
  subst l43 y43 z43
  obtain ⟨rb, rfl, N43q, K43, ob, Jr⟩ := hQ43
  have N43 := Fr.app N39 N43q
  have Ira_43 := Ira_39.keep K43 nin0
  have Iva_43 := J39.keep K43 nin0
  have Z43 : n0 ≤ T43.heap.size := Nat.le_trans Z39 K43.1
  have q44 : Steps p.tables e below (s₁.setTop (entryFrame m #[(.int p0), (.int p1), (.int p2), (.int p3), (.int p4)] maxLocals)) (T43.setTop (mkF m 77 #[.val (.int p0), .val (.int p1), .val (.int p2), .val (.int p3), .val (.int p4), .val (.ref ra), .val (.ref va), .unset, .unset] [(.ref rb)])) := q41.trans (st43 _ (Steps.refl _))
  have q45 : Steps p.tables e below (s₁.setTop (entryFrame m #[(.int p0), (.int p1), (.int p2), (.int p3), (.int p4)] maxLocals)) (T43.setTop (mkF m 88 #[.val (.int p0), .val (.int p1), .val (.int p2), .val (.int p3), .val (.int p4), .val (.ref ra), .val (.ref va), .val (.ref rb), .unset] [(.int (4 : Int32)), (.int (Own.lnD r42))])) := q44.trans (by
      show Steps p.tables e below (T43.setTop (mkF m 77 #[.val (.int p0), .val (.int p1), .val (.int p2), .val (.int p3), .val (.int p4), .val (.ref ra), .val (.ref va), .unset, .unset] [(.ref rb)])) _
      refine XS.astore X43.here hx rfl (hb hby at_77) rfl rfl (l' := #[.val (.int p0), .val (.int p1), .val (.int p2), .val (.int p3), .val (.int p4), .val (.ref ra), .val (.ref va), .val (.ref rb), .unset]) rfl ?_
      show Steps p.tables e below (T43.setTop (mkF m 79 #[.val (.int p0), .val (.int p1), .val (.int p2), .val (.int p3), .val (.int p4), .val (.ref ra), .val (.ref va), .val (.ref rb), .unset] [])) _
      refine XS.aload X43.here hx rfl (hb hby at_79) rfl rfl ?_
      show Steps p.tables e below (T43.setTop (mkF m 81 #[.val (.int p0), .val (.int p1), .val (.int p2), .val (.int p3), .val (.int p4), .val (.ref ra), .val (.ref va), .val (.ref rb), .unset] [(.ref rb)])) _
      refine XS.ifnullNo X43.here hx rfl (hb hby at_81) rfl ?_
      show Steps p.tables e below (T43.setTop (mkF m 84 #[.val (.int p0), .val (.int p1), .val (.int p2), .val (.int p3), .val (.int p4), .val (.ref ra), .val (.ref va), .val (.ref rb), .unset] [])) _
      refine XS.aload X43.here hx rfl (hb hby at_84) rfl rfl ?_
      show Steps p.tables e below (T43.setTop (mkF m 86 #[.val (.int p0), .val (.int p1), .val (.int p2), .val (.int p3), .val (.int p4), .val (.ref ra), .val (.ref va), .val (.ref rb), .unset] [(.ref rb)])) _
      refine Own.lnV X43 hx hZ rfl Jr (z := Own.lnD r42) (by rw [List.length_map]; rfl) (g := (mkF m 86 #[.val (.int p0), .val (.int p1), .val (.int p2), .val (.int p3), .val (.int p4), .val (.ref ra), .val (.ref va), .val (.ref rb), .unset] [(.ref rb)])) rfl rfl (hb hby at_86) _ ?_
      show Steps p.tables e below (T43.setTop (mkF m 87 #[.val (.int p0), .val (.int p1), .val (.int p2), .val (.int p3), .val (.int p4), .val (.ref ra), .val (.ref va), .val (.ref rb), .unset] [(.int (Own.lnD r42))])) _
      refine XS.iconst X43.here hx rfl (hb hby at_87) ?_
      show Steps p.tables e below (T43.setTop (mkF m 88 #[.val (.int p0), .val (.int p1), .val (.int p2), .val (.int p3), .val (.int p4), .val (.ref ra), .val (.ref va), .val (.ref rb), .unset] [(.int (4 : Int32)), (.int (Own.lnD r42))])) _
      exact Steps.refl _)
  by_cases hc46 : (Own.lnD r42) = (4 : Int32)
  · rw [if_pos hc46] at hM
    have q47 : Steps p.tables e below (s₁.setTop (entryFrame m #[(.int p0), (.int p1), (.int p2), (.int p3), (.int p4)] maxLocals)) (T43.setTop (mkF m 93 #[.val (.int p0), .val (.int p1), .val (.int p2), .val (.int p3), .val (.int p4), .val (.ref ra), .val (.ref va), .val (.ref rb), .unset] [])) := q45.trans (by
        show Steps p.tables e below (T43.setTop (mkF m 88 #[.val (.int p0), .val (.int p1), .val (.int p2), .val (.int p3), .val (.int p4), .val (.ref ra), .val (.ref va), .val (.ref rb), .unset] [(.int (4 : Int32)), (.int (Own.lnD r42))])) _
        refine XS.icmpYes X43.here hx rfl (pc0 := 88) (pc' := 93) rfl (hb hby at_88) rfl (teq hc46).1 (by decide) (by decide) ?_
        show Steps p.tables e below (T43.setTop (mkF m 93 #[.val (.int p0), .val (.int p1), .val (.int p2), .val (.int p3), .val (.int p4), .val (.ref ra), .val (.ref va), .val (.ref rb), .unset] [])) _
        exact Steps.refl _)
    have q48 : Steps p.tables e below (s₁.setTop (entryFrame m #[(.int p0), (.int p1), (.int p2), (.int p3), (.int p4)] maxLocals)) (T43.setTop (mkF m 96 #[.val (.int p0), .val (.int p1), .val (.int p2), .val (.int p3), .val (.int p4), .val (.ref ra), .val (.ref va), .val (.ref rb), .unset] [(.int (0 : Int32)), (.ref va)])) := q47.trans (by
        show Steps p.tables e below (T43.setTop (mkF m 93 #[.val (.int p0), .val (.int p1), .val (.int p2), .val (.int p3), .val (.int p4), .val (.ref ra), .val (.ref va), .val (.ref rb), .unset] [])) _
        refine XS.aload X43.here hx rfl (hb hby at_93) rfl rfl ?_
        show Steps p.tables e below (T43.setTop (mkF m 95 #[.val (.int p0), .val (.int p1), .val (.int p2), .val (.int p3), .val (.int p4), .val (.ref ra), .val (.ref va), .val (.ref rb), .unset] [(.ref va)])) _
        refine XS.iconst X43.here hx rfl (hb hby at_95) ?_
        show Steps p.tables e below (T43.setTop (mkF m 96 #[.val (.int p0), .val (.int p1), .val (.int p2), .val (.int p3), .val (.int p4), .val (.ref ra), .val (.ref va), .val (.ref rb), .unset] [(.int (0 : Int32)), (.ref va)])) _
        exact Steps.refl _)
    obtain ⟨v49, hv49, hM⟩ := Option.bind_eq_some_iff.mp hM
    have q50 : Steps p.tables e below (s₁.setTop (entryFrame m #[(.int p0), (.int p1), (.int p2), (.int p3), (.int p4)] maxLocals)) (T43.setTop (mkF m 97 #[.val (.int p0), .val (.int p1), .val (.int p2), .val (.int p3), .val (.int p4), .val (.ref ra), .val (.ref va), .val (.ref rb), .unset] [(.double v49)])) := q48.trans (Own.ldDO X43 hx hZ rfl Iva_43 hv49 (g := (mkF m 96 #[.val (.int p0), .val (.int p1), .val (.int p2), .val (.int p3), .val (.int p4), .val (.ref ra), .val (.ref va), .val (.ref rb), .unset] [(.int (0 : Int32)), (.ref va)])) rfl rfl (hb hby at_96) _ (Steps.refl _))
    have q51 : Steps p.tables e below (s₁.setTop (entryFrame m #[(.int p0), (.int p1), (.int p2), (.int p3), (.int p4)] maxLocals)) (T43.setTop (mkF m 100 #[.val (.int p0), .val (.int p1), .val (.int p2), .val (.int p3), .val (.int p4), .val (.ref ra), .val (.ref va), .val (.ref rb), .unset] [(.int (cmpValue (FP.dcmp v49 (FP.i2d p1)) .l))])) := q50.trans (by
        show Steps p.tables e below (T43.setTop (mkF m 97 #[.val (.int p0), .val (.int p1), .val (.int p2), .val (.int p3), .val (.int p4), .val (.ref ra), .val (.ref va), .val (.ref rb), .unset] [(.double v49)])) _
        refine XS.iloadN X43.here hx rfl (hb hby at_97) rfl ?_
        show Steps p.tables e below (T43.setTop (mkF m 98 #[.val (.int p0), .val (.int p1), .val (.int p2), .val (.int p3), .val (.int p4), .val (.ref ra), .val (.ref va), .val (.ref rb), .unset] [(.int p1), (.double v49)])) _
        refine XS.i2dS X43.here hx rfl (hb hby at_98) rfl rfl ?_
        show Steps p.tables e below (T43.setTop (mkF m 99 #[.val (.int p0), .val (.int p1), .val (.int p2), .val (.int p3), .val (.int p4), .val (.ref ra), .val (.ref va), .val (.ref rb), .unset] [(.double (FP.i2d p1)), (.double v49)])) _
        refine XS.dcmpS X43.here hx rfl (hb hby at_99) rfl rfl ?_
        show Steps p.tables e below (T43.setTop (mkF m 100 #[.val (.int p0), .val (.int p1), .val (.int p2), .val (.int p3), .val (.int p4), .val (.ref ra), .val (.ref va), .val (.ref rb), .unset] [(.int (cmpValue (FP.dcmp v49 (FP.i2d p1)) .l))])) _
        exact Steps.refl _)
    by_cases hc53 : (cmpValue (FP.dcmp v49 (FP.i2d p1)) .l) = (0 : Int32)
    · rw [if_pos hc53] at hM
      have q54 : Steps p.tables e below (s₁.setTop (entryFrame m #[(.int p0), (.int p1), (.int p2), (.int p3), (.int p4)] maxLocals)) (T43.setTop (mkF m 103 #[.val (.int p0), .val (.int p1), .val (.int p2), .val (.int p3), .val (.int p4), .val (.ref ra), .val (.ref va), .val (.ref rb), .unset] [])) := q51.trans (by
          show Steps p.tables e below (T43.setTop (mkF m 100 #[.val (.int p0), .val (.int p1), .val (.int p2), .val (.int p3), .val (.int p4), .val (.ref ra), .val (.ref va), .val (.ref rb), .unset] [(.int (cmpValue (FP.dcmp v49 (FP.i2d p1)) .l))])) _
          refine XS.ifNo X43.here hx rfl (hb hby at_100) rfl ((if0 _ _).trans (teq hc53).2) ?_
          show Steps p.tables e below (T43.setTop (mkF m 103 #[.val (.int p0), .val (.int p1), .val (.int p2), .val (.int p3), .val (.int p4), .val (.ref ra), .val (.ref va), .val (.ref rb), .unset] [])) _
          exact Steps.refl _)
      have q55 : Steps p.tables e below (s₁.setTop (entryFrame m #[(.int p0), (.int p1), (.int p2), (.int p3), (.int p4)] maxLocals)) (T43.setTop (mkF m 106 #[.val (.int p0), .val (.int p1), .val (.int p2), .val (.int p3), .val (.int p4), .val (.ref ra), .val (.ref va), .val (.ref rb), .unset] [(.int (1 : Int32)), (.ref va)])) := q54.trans (by
          show Steps p.tables e below (T43.setTop (mkF m 103 #[.val (.int p0), .val (.int p1), .val (.int p2), .val (.int p3), .val (.int p4), .val (.ref ra), .val (.ref va), .val (.ref rb), .unset] [])) _
          refine XS.aload X43.here hx rfl (hb hby at_103) rfl rfl ?_
          show Steps p.tables e below (T43.setTop (mkF m 105 #[.val (.int p0), .val (.int p1), .val (.int p2), .val (.int p3), .val (.int p4), .val (.ref ra), .val (.ref va), .val (.ref rb), .unset] [(.ref va)])) _
          refine XS.iconst X43.here hx rfl (hb hby at_105) ?_
          show Steps p.tables e below (T43.setTop (mkF m 106 #[.val (.int p0), .val (.int p1), .val (.int p2), .val (.int p3), .val (.int p4), .val (.ref ra), .val (.ref va), .val (.ref rb), .unset] [(.int (1 : Int32)), (.ref va)])) _
          exact Steps.refl _)
      obtain ⟨v56, hv56, hM⟩ := Option.bind_eq_some_iff.mp hM
      have q57 : Steps p.tables e below (s₁.setTop (entryFrame m #[(.int p0), (.int p1), (.int p2), (.int p3), (.int p4)] maxLocals)) (T43.setTop (mkF m 107 #[.val (.int p0), .val (.int p1), .val (.int p2), .val (.int p3), .val (.int p4), .val (.ref ra), .val (.ref va), .val (.ref rb), .unset] [(.double v56)])) := q55.trans (Own.ldDO X43 hx hZ rfl Iva_43 hv56 (g := (mkF m 106 #[.val (.int p0), .val (.int p1), .val (.int p2), .val (.int p3), .val (.int p4), .val (.ref ra), .val (.ref va), .val (.ref rb), .unset] [(.int (1 : Int32)), (.ref va)])) rfl rfl (hb hby at_106) _ (Steps.refl _))
      have q58 : Steps p.tables e below (s₁.setTop (entryFrame m #[(.int p0), (.int p1), (.int p2), (.int p3), (.int p4)] maxLocals)) (T43.setTop (mkF m 110 #[.val (.int p0), .val (.int p1), .val (.int p2), .val (.int p3), .val (.int p4), .val (.ref ra), .val (.ref va), .val (.ref rb), .unset] [(.int (cmpValue (FP.dcmp v56 (FP.i2d p2)) .l))])) := q57.trans (by
          show Steps p.tables e below (T43.setTop (mkF m 107 #[.val (.int p0), .val (.int p1), .val (.int p2), .val (.int p3), .val (.int p4), .val (.ref ra), .val (.ref va), .val (.ref rb), .unset] [(.double v56)])) _
          refine XS.iloadN X43.here hx rfl (hb hby at_107) rfl ?_
          show Steps p.tables e below (T43.setTop (mkF m 108 #[.val (.int p0), .val (.int p1), .val (.int p2), .val (.int p3), .val (.int p4), .val (.ref ra), .val (.ref va), .val (.ref rb), .unset] [(.int p2), (.double v56)])) _
          refine XS.i2dS X43.here hx rfl (hb hby at_108) rfl rfl ?_
          show Steps p.tables e below (T43.setTop (mkF m 109 #[.val (.int p0), .val (.int p1), .val (.int p2), .val (.int p3), .val (.int p4), .val (.ref ra), .val (.ref va), .val (.ref rb), .unset] [(.double (FP.i2d p2)), (.double v56)])) _
          refine XS.dcmpS X43.here hx rfl (hb hby at_109) rfl rfl ?_
          show Steps p.tables e below (T43.setTop (mkF m 110 #[.val (.int p0), .val (.int p1), .val (.int p2), .val (.int p3), .val (.int p4), .val (.ref ra), .val (.ref va), .val (.ref rb), .unset] [(.int (cmpValue (FP.dcmp v56 (FP.i2d p2)) .l))])) _
          exact Steps.refl _)
      by_cases hc60 : (cmpValue (FP.dcmp v56 (FP.i2d p2)) .l) = (0 : Int32)
      · rw [if_pos hc60] at hM
        have q61 : Steps p.tables e below (s₁.setTop (entryFrame m #[(.int p0), (.int p1), (.int p2), (.int p3), (.int p4)] maxLocals)) (T43.setTop (mkF m 113 #[.val (.int p0), .val (.int p1), .val (.int p2), .val (.int p3), .val (.int p4), .val (.ref ra), .val (.ref va), .val (.ref rb), .unset] [])) := q58.trans (by
            show Steps p.tables e below (T43.setTop (mkF m 110 #[.val (.int p0), .val (.int p1), .val (.int p2), .val (.int p3), .val (.int p4), .val (.ref ra), .val (.ref va), .val (.ref rb), .unset] [(.int (cmpValue (FP.dcmp v56 (FP.i2d p2)) .l))])) _
            refine XS.ifNo X43.here hx rfl (hb hby at_110) rfl ((if0 _ _).trans (teq hc60).2) ?_
            show Steps p.tables e below (T43.setTop (mkF m 113 #[.val (.int p0), .val (.int p1), .val (.int p2), .val (.int p3), .val (.int p4), .val (.ref ra), .val (.ref va), .val (.ref rb), .unset] [])) _
            exact Steps.refl _)
        have q62 : Steps p.tables e below (s₁.setTop (entryFrame m #[(.int p0), (.int p1), (.int p2), (.int p3), (.int p4)] maxLocals)) (T43.setTop (mkF m 116 #[.val (.int p0), .val (.int p1), .val (.int p2), .val (.int p3), .val (.int p4), .val (.ref ra), .val (.ref va), .val (.ref rb), .unset] [(.int (2 : Int32)), (.ref va)])) := q61.trans (by
            show Steps p.tables e below (T43.setTop (mkF m 113 #[.val (.int p0), .val (.int p1), .val (.int p2), .val (.int p3), .val (.int p4), .val (.ref ra), .val (.ref va), .val (.ref rb), .unset] [])) _
            refine XS.aload X43.here hx rfl (hb hby at_113) rfl rfl ?_
            show Steps p.tables e below (T43.setTop (mkF m 115 #[.val (.int p0), .val (.int p1), .val (.int p2), .val (.int p3), .val (.int p4), .val (.ref ra), .val (.ref va), .val (.ref rb), .unset] [(.ref va)])) _
            refine XS.iconst X43.here hx rfl (hb hby at_115) ?_
            show Steps p.tables e below (T43.setTop (mkF m 116 #[.val (.int p0), .val (.int p1), .val (.int p2), .val (.int p3), .val (.int p4), .val (.ref ra), .val (.ref va), .val (.ref rb), .unset] [(.int (2 : Int32)), (.ref va)])) _
            exact Steps.refl _)
        obtain ⟨v63, hv63, hM⟩ := Option.bind_eq_some_iff.mp hM
        have q64 : Steps p.tables e below (s₁.setTop (entryFrame m #[(.int p0), (.int p1), (.int p2), (.int p3), (.int p4)] maxLocals)) (T43.setTop (mkF m 117 #[.val (.int p0), .val (.int p1), .val (.int p2), .val (.int p3), .val (.int p4), .val (.ref ra), .val (.ref va), .val (.ref rb), .unset] [(.double v63)])) := q62.trans (Own.ldDO X43 hx hZ rfl Iva_43 hv63 (g := (mkF m 116 #[.val (.int p0), .val (.int p1), .val (.int p2), .val (.int p3), .val (.int p4), .val (.ref ra), .val (.ref va), .val (.ref rb), .unset] [(.int (2 : Int32)), (.ref va)])) rfl rfl (hb hby at_116) _ (Steps.refl _))
        have q65 : Steps p.tables e below (s₁.setTop (entryFrame m #[(.int p0), (.int p1), (.int p2), (.int p3), (.int p4)] maxLocals)) (T43.setTop (mkF m 120 #[.val (.int p0), .val (.int p1), .val (.int p2), .val (.int p3), .val (.int p4), .val (.ref ra), .val (.ref va), .val (.ref rb), .unset] [(.int (cmpValue (FP.dcmp v63 (FP.i2d p3)) .l))])) := q64.trans (by
            show Steps p.tables e below (T43.setTop (mkF m 117 #[.val (.int p0), .val (.int p1), .val (.int p2), .val (.int p3), .val (.int p4), .val (.ref ra), .val (.ref va), .val (.ref rb), .unset] [(.double v63)])) _
            refine XS.iloadN X43.here hx rfl (hb hby at_117) rfl ?_
            show Steps p.tables e below (T43.setTop (mkF m 118 #[.val (.int p0), .val (.int p1), .val (.int p2), .val (.int p3), .val (.int p4), .val (.ref ra), .val (.ref va), .val (.ref rb), .unset] [(.int p3), (.double v63)])) _
            refine XS.i2dS X43.here hx rfl (hb hby at_118) rfl rfl ?_
            show Steps p.tables e below (T43.setTop (mkF m 119 #[.val (.int p0), .val (.int p1), .val (.int p2), .val (.int p3), .val (.int p4), .val (.ref ra), .val (.ref va), .val (.ref rb), .unset] [(.double (FP.i2d p3)), (.double v63)])) _
            refine XS.dcmpS X43.here hx rfl (hb hby at_119) rfl rfl ?_
            show Steps p.tables e below (T43.setTop (mkF m 120 #[.val (.int p0), .val (.int p1), .val (.int p2), .val (.int p3), .val (.int p4), .val (.ref ra), .val (.ref va), .val (.ref rb), .unset] [(.int (cmpValue (FP.dcmp v63 (FP.i2d p3)) .l))])) _
            exact Steps.refl _)
        by_cases hc67 : (cmpValue (FP.dcmp v63 (FP.i2d p3)) .l) = (0 : Int32)
        · rw [if_pos hc67] at hM
          have q68 : Steps p.tables e below (s₁.setTop (entryFrame m #[(.int p0), (.int p1), (.int p2), (.int p3), (.int p4)] maxLocals)) (T43.setTop (mkF m 123 #[.val (.int p0), .val (.int p1), .val (.int p2), .val (.int p3), .val (.int p4), .val (.ref ra), .val (.ref va), .val (.ref rb), .unset] [])) := q65.trans (by
              show Steps p.tables e below (T43.setTop (mkF m 120 #[.val (.int p0), .val (.int p1), .val (.int p2), .val (.int p3), .val (.int p4), .val (.ref ra), .val (.ref va), .val (.ref rb), .unset] [(.int (cmpValue (FP.dcmp v63 (FP.i2d p3)) .l))])) _
              refine XS.ifNo X43.here hx rfl (hb hby at_120) rfl ((if0 _ _).trans (teq hc67).2) ?_
              show Steps p.tables e below (T43.setTop (mkF m 123 #[.val (.int p0), .val (.int p1), .val (.int p2), .val (.int p3), .val (.int p4), .val (.ref ra), .val (.ref va), .val (.ref rb), .unset] [])) _
              exact Steps.refl _)
          have q69 : Steps p.tables e below (s₁.setTop (entryFrame m #[(.int p0), (.int p1), (.int p2), (.int p3), (.int p4)] maxLocals)) (T43.setTop (mkF m 126 #[.val (.int p0), .val (.int p1), .val (.int p2), .val (.int p3), .val (.int p4), .val (.ref ra), .val (.ref va), .val (.ref rb), .unset] [(.int (3 : Int32)), (.ref va)])) := q68.trans (by
              show Steps p.tables e below (T43.setTop (mkF m 123 #[.val (.int p0), .val (.int p1), .val (.int p2), .val (.int p3), .val (.int p4), .val (.ref ra), .val (.ref va), .val (.ref rb), .unset] [])) _
              refine XS.aload X43.here hx rfl (hb hby at_123) rfl rfl ?_
              show Steps p.tables e below (T43.setTop (mkF m 125 #[.val (.int p0), .val (.int p1), .val (.int p2), .val (.int p3), .val (.int p4), .val (.ref ra), .val (.ref va), .val (.ref rb), .unset] [(.ref va)])) _
              refine XS.iconst X43.here hx rfl (hb hby at_125) ?_
              show Steps p.tables e below (T43.setTop (mkF m 126 #[.val (.int p0), .val (.int p1), .val (.int p2), .val (.int p3), .val (.int p4), .val (.ref ra), .val (.ref va), .val (.ref rb), .unset] [(.int (3 : Int32)), (.ref va)])) _
              exact Steps.refl _)
          obtain ⟨v70, hv70, hM⟩ := Option.bind_eq_some_iff.mp hM
          have q71 : Steps p.tables e below (s₁.setTop (entryFrame m #[(.int p0), (.int p1), (.int p2), (.int p3), (.int p4)] maxLocals)) (T43.setTop (mkF m 127 #[.val (.int p0), .val (.int p1), .val (.int p2), .val (.int p3), .val (.int p4), .val (.ref ra), .val (.ref va), .val (.ref rb), .unset] [(.double v70)])) := q69.trans (Own.ldDO X43 hx hZ rfl Iva_43 hv70 (g := (mkF m 126 #[.val (.int p0), .val (.int p1), .val (.int p2), .val (.int p3), .val (.int p4), .val (.ref ra), .val (.ref va), .val (.ref rb), .unset] [(.int (3 : Int32)), (.ref va)])) rfl rfl (hb hby at_126) _ (Steps.refl _))
          have q72 : Steps p.tables e below (s₁.setTop (entryFrame m #[(.int p0), (.int p1), (.int p2), (.int p3), (.int p4)] maxLocals)) (T43.setTop (mkF m 131 #[.val (.int p0), .val (.int p1), .val (.int p2), .val (.int p3), .val (.int p4), .val (.ref ra), .val (.ref va), .val (.ref rb), .unset] [(.int (cmpValue (FP.dcmp v70 (FP.i2d p4)) .l))])) := q71.trans (by
              show Steps p.tables e below (T43.setTop (mkF m 127 #[.val (.int p0), .val (.int p1), .val (.int p2), .val (.int p3), .val (.int p4), .val (.ref ra), .val (.ref va), .val (.ref rb), .unset] [(.double v70)])) _
              refine XS.iload X43.here hx rfl (hb hby at_127) rfl ?_
              show Steps p.tables e below (T43.setTop (mkF m 129 #[.val (.int p0), .val (.int p1), .val (.int p2), .val (.int p3), .val (.int p4), .val (.ref ra), .val (.ref va), .val (.ref rb), .unset] [(.int p4), (.double v70)])) _
              refine XS.i2dS X43.here hx rfl (hb hby at_129) rfl rfl ?_
              show Steps p.tables e below (T43.setTop (mkF m 130 #[.val (.int p0), .val (.int p1), .val (.int p2), .val (.int p3), .val (.int p4), .val (.ref ra), .val (.ref va), .val (.ref rb), .unset] [(.double (FP.i2d p4)), (.double v70)])) _
              refine XS.dcmpS X43.here hx rfl (hb hby at_130) rfl rfl ?_
              show Steps p.tables e below (T43.setTop (mkF m 131 #[.val (.int p0), .val (.int p1), .val (.int p2), .val (.int p3), .val (.int p4), .val (.ref ra), .val (.ref va), .val (.ref rb), .unset] [(.int (cmpValue (FP.dcmp v70 (FP.i2d p4)) .l))])) _
              exact Steps.refl _)
          by_cases hc74 : (cmpValue (FP.dcmp v70 (FP.i2d p4)) .l) = (0 : Int32)
          · rw [if_pos hc74] at hM
            have q75 : Steps p.tables e below (s₁.setTop (entryFrame m #[(.int p0), (.int p1), (.int p2), (.int p3), (.int p4)] maxLocals)) (T43.setTop (mkF m 134 #[.val (.int p0), .val (.int p1), .val (.int p2), .val (.int p3), .val (.int p4), .val (.ref ra), .val (.ref va), .val (.ref rb), .unset] [])) := q72.trans (by
                show Steps p.tables e below (T43.setTop (mkF m 131 #[.val (.int p0), .val (.int p1), .val (.int p2), .val (.int p3), .val (.int p4), .val (.ref ra), .val (.ref va), .val (.ref rb), .unset] [(.int (cmpValue (FP.dcmp v70 (FP.i2d p4)) .l))])) _
                refine XS.ifNo X43.here hx rfl (hb hby at_131) rfl ((if0 _ _).trans (teq hc74).2) ?_
                show Steps p.tables e below (T43.setTop (mkF m 134 #[.val (.int p0), .val (.int p1), .val (.int p2), .val (.int p3), .val (.int p4), .val (.ref ra), .val (.ref va), .val (.ref rb), .unset] [])) _
                exact Steps.refl _)
            have q76 : Steps p.tables e below (s₁.setTop (entryFrame m #[(.int p0), (.int p1), (.int p2), (.int p3), (.int p4)] maxLocals)) (T43.setTop (mkF m 137 #[.val (.int p0), .val (.int p1), .val (.int p2), .val (.int p3), .val (.int p4), .val (.ref ra), .val (.ref va), .val (.ref rb), .unset] [(.int (0 : Int32)), (.ref ra)])) := q75.trans (by
                show Steps p.tables e below (T43.setTop (mkF m 134 #[.val (.int p0), .val (.int p1), .val (.int p2), .val (.int p3), .val (.int p4), .val (.ref ra), .val (.ref va), .val (.ref rb), .unset] [])) _
                refine XS.aload X43.here hx rfl (hb hby at_134) rfl rfl ?_
                show Steps p.tables e below (T43.setTop (mkF m 136 #[.val (.int p0), .val (.int p1), .val (.int p2), .val (.int p3), .val (.int p4), .val (.ref ra), .val (.ref va), .val (.ref rb), .unset] [(.ref ra)])) _
                refine XS.iconst X43.here hx rfl (hb hby at_136) ?_
                show Steps p.tables e below (T43.setTop (mkF m 137 #[.val (.int p0), .val (.int p1), .val (.int p2), .val (.int p3), .val (.int p4), .val (.ref ra), .val (.ref va), .val (.ref rb), .unset] [(.int (0 : Int32)), (.ref ra)])) _
                exact Steps.refl _)
            obtain ⟨v77, hv77, hM⟩ := Option.bind_eq_some_iff.mp hM
            have q78 : Steps p.tables e below (s₁.setTop (entryFrame m #[(.int p0), (.int p1), (.int p2), (.int p3), (.int p4)] maxLocals)) (T43.setTop (mkF m 138 #[.val (.int p0), .val (.int p1), .val (.int p2), .val (.int p3), .val (.int p4), .val (.ref ra), .val (.ref va), .val (.ref rb), .unset] [(.int v77)])) := q76.trans (Own.ldO X43 hx hZ rfl Ira_43 hv77 (g := (mkF m 137 #[.val (.int p0), .val (.int p1), .val (.int p2), .val (.int p3), .val (.int p4), .val (.ref ra), .val (.ref va), .val (.ref rb), .unset] [(.int (0 : Int32)), (.ref ra)])) rfl rfl (hb hby at_137) _ (Steps.refl _))
            have q79 : Steps p.tables e below (s₁.setTop (entryFrame m #[(.int p0), (.int p1), (.int p2), (.int p3), (.int p4)] maxLocals)) (T43.setTop (mkF m 141 #[.val (.int p0), .val (.int p1), .val (.int p2), .val (.int p3), .val (.int p4), .val (.ref ra), .val (.ref va), .val (.ref rb), .unset] [(.int (p0 &&& (3 : Int32))), (.int v77)])) := q78.trans (by
                show Steps p.tables e below (T43.setTop (mkF m 138 #[.val (.int p0), .val (.int p1), .val (.int p2), .val (.int p3), .val (.int p4), .val (.ref ra), .val (.ref va), .val (.ref rb), .unset] [(.int v77)])) _
                refine XS.iloadN X43.here hx rfl (hb hby at_138) rfl ?_
                show Steps p.tables e below (T43.setTop (mkF m 139 #[.val (.int p0), .val (.int p1), .val (.int p2), .val (.int p3), .val (.int p4), .val (.ref ra), .val (.ref va), .val (.ref rb), .unset] [(.int p0), (.int v77)])) _
                refine XS.iconst X43.here hx rfl (hb hby at_139) ?_
                show Steps p.tables e below (T43.setTop (mkF m 140 #[.val (.int p0), .val (.int p1), .val (.int p2), .val (.int p3), .val (.int p4), .val (.ref ra), .val (.ref va), .val (.ref rb), .unset] [(.int (3 : Int32)), (.int p0), (.int v77)])) _
                refine XS.iand X43.here hx rfl (hb hby at_140) rfl ?_
                show Steps p.tables e below (T43.setTop (mkF m 141 #[.val (.int p0), .val (.int p1), .val (.int p2), .val (.int p3), .val (.int p4), .val (.ref ra), .val (.ref va), .val (.ref rb), .unset] [(.int (p0 &&& (3 : Int32))), (.int v77)])) _
                exact Steps.refl _)
            by_cases hc81 : v77 = (p0 &&& (3 : Int32))
            · rw [if_pos hc81] at hM
              have q82 : Steps p.tables e below (s₁.setTop (entryFrame m #[(.int p0), (.int p1), (.int p2), (.int p3), (.int p4)] maxLocals)) (T43.setTop (mkF m 144 #[.val (.int p0), .val (.int p1), .val (.int p2), .val (.int p3), .val (.int p4), .val (.ref ra), .val (.ref va), .val (.ref rb), .unset] [])) := q79.trans (by
                  show Steps p.tables e below (T43.setTop (mkF m 141 #[.val (.int p0), .val (.int p1), .val (.int p2), .val (.int p3), .val (.int p4), .val (.ref ra), .val (.ref va), .val (.ref rb), .unset] [(.int (p0 &&& (3 : Int32))), (.int v77)])) _
                  refine XS.icmpNo X43.here hx rfl (hb hby at_141) rfl (teq hc81).2 ?_
                  show Steps p.tables e below (T43.setTop (mkF m 144 #[.val (.int p0), .val (.int p1), .val (.int p2), .val (.int p3), .val (.int p4), .val (.ref ra), .val (.ref va), .val (.ref rb), .unset] [])) _
                  exact Steps.refl _)
              have q83 : Steps p.tables e below (s₁.setTop (entryFrame m #[(.int p0), (.int p1), (.int p2), (.int p3), (.int p4)] maxLocals)) (T43.setTop (mkF m 147 #[.val (.int p0), .val (.int p1), .val (.int p2), .val (.int p3), .val (.int p4), .val (.ref ra), .val (.ref va), .val (.ref rb), .unset] [(.int (1 : Int32)), (.ref ra)])) := q82.trans (by
                  show Steps p.tables e below (T43.setTop (mkF m 144 #[.val (.int p0), .val (.int p1), .val (.int p2), .val (.int p3), .val (.int p4), .val (.ref ra), .val (.ref va), .val (.ref rb), .unset] [])) _
                  refine XS.aload X43.here hx rfl (hb hby at_144) rfl rfl ?_
                  show Steps p.tables e below (T43.setTop (mkF m 146 #[.val (.int p0), .val (.int p1), .val (.int p2), .val (.int p3), .val (.int p4), .val (.ref ra), .val (.ref va), .val (.ref rb), .unset] [(.ref ra)])) _
                  refine XS.iconst X43.here hx rfl (hb hby at_146) ?_
                  show Steps p.tables e below (T43.setTop (mkF m 147 #[.val (.int p0), .val (.int p1), .val (.int p2), .val (.int p3), .val (.int p4), .val (.ref ra), .val (.ref va), .val (.ref rb), .unset] [(.int (1 : Int32)), (.ref ra)])) _
                  exact Steps.refl _)
              obtain ⟨v84, hv84, hM⟩ := Option.bind_eq_some_iff.mp hM
              have q85 : Steps p.tables e below (s₁.setTop (entryFrame m #[(.int p0), (.int p1), (.int p2), (.int p3), (.int p4)] maxLocals)) (T43.setTop (mkF m 148 #[.val (.int p0), .val (.int p1), .val (.int p2), .val (.int p3), .val (.int p4), .val (.ref ra), .val (.ref va), .val (.ref rb), .unset] [(.int v84)])) := q83.trans (Own.ldO X43 hx hZ rfl Ira_43 hv84 (g := (mkF m 147 #[.val (.int p0), .val (.int p1), .val (.int p2), .val (.int p3), .val (.int p4), .val (.ref ra), .val (.ref va), .val (.ref rb), .unset] [(.int (1 : Int32)), (.ref ra)])) rfl rfl (hb hby at_147) _ (Steps.refl _))
              have q86 : Steps p.tables e below (s₁.setTop (entryFrame m #[(.int p0), (.int p1), (.int p2), (.int p3), (.int p4)] maxLocals)) (T43.setTop (mkF m 153 #[.val (.int p0), .val (.int p1), .val (.int p2), .val (.int p3), .val (.int p4), .val (.ref ra), .val (.ref va), .val (.ref rb), .unset] [(.int (((p0.toUInt32 >>> ((2 : Int32) &&& 31).toUInt32).toInt32) &&& (3 : Int32))), (.int v84)])) := q85.trans (by
                  show Steps p.tables e below (T43.setTop (mkF m 148 #[.val (.int p0), .val (.int p1), .val (.int p2), .val (.int p3), .val (.int p4), .val (.ref ra), .val (.ref va), .val (.ref rb), .unset] [(.int v84)])) _
                  refine XS.iloadN X43.here hx rfl (hb hby at_148) rfl ?_
                  show Steps p.tables e below (T43.setTop (mkF m 149 #[.val (.int p0), .val (.int p1), .val (.int p2), .val (.int p3), .val (.int p4), .val (.ref ra), .val (.ref va), .val (.ref rb), .unset] [(.int p0), (.int v84)])) _
                  refine XS.iconst X43.here hx rfl (hb hby at_149) ?_
                  show Steps p.tables e below (T43.setTop (mkF m 150 #[.val (.int p0), .val (.int p1), .val (.int p2), .val (.int p3), .val (.int p4), .val (.ref ra), .val (.ref va), .val (.ref rb), .unset] [(.int (2 : Int32)), (.int p0), (.int v84)])) _
                  refine XS.iushr X43.here hx rfl (hb hby at_150) rfl ?_
                  show Steps p.tables e below (T43.setTop (mkF m 151 #[.val (.int p0), .val (.int p1), .val (.int p2), .val (.int p3), .val (.int p4), .val (.ref ra), .val (.ref va), .val (.ref rb), .unset] [(.int ((p0.toUInt32 >>> ((2 : Int32) &&& 31).toUInt32).toInt32)), (.int v84)])) _
                  refine XS.iconst X43.here hx rfl (hb hby at_151) ?_
                  show Steps p.tables e below (T43.setTop (mkF m 152 #[.val (.int p0), .val (.int p1), .val (.int p2), .val (.int p3), .val (.int p4), .val (.ref ra), .val (.ref va), .val (.ref rb), .unset] [(.int (3 : Int32)), (.int ((p0.toUInt32 >>> ((2 : Int32) &&& 31).toUInt32).toInt32)), (.int v84)])) _
                  refine XS.iand X43.here hx rfl (hb hby at_152) rfl ?_
                  show Steps p.tables e below (T43.setTop (mkF m 153 #[.val (.int p0), .val (.int p1), .val (.int p2), .val (.int p3), .val (.int p4), .val (.ref ra), .val (.ref va), .val (.ref rb), .unset] [(.int (((p0.toUInt32 >>> ((2 : Int32) &&& 31).toUInt32).toInt32) &&& (3 : Int32))), (.int v84)])) _
                  exact Steps.refl _)
              by_cases hc88 : v84 = (((p0.toUInt32 >>> ((2 : Int32) &&& 31).toUInt32).toInt32) &&& (3 : Int32))
              · rw [if_pos hc88] at hM
                have q89 : Steps p.tables e below (s₁.setTop (entryFrame m #[(.int p0), (.int p1), (.int p2), (.int p3), (.int p4)] maxLocals)) (T43.setTop (mkF m 156 #[.val (.int p0), .val (.int p1), .val (.int p2), .val (.int p3), .val (.int p4), .val (.ref ra), .val (.ref va), .val (.ref rb), .unset] [])) := q86.trans (by
                    show Steps p.tables e below (T43.setTop (mkF m 153 #[.val (.int p0), .val (.int p1), .val (.int p2), .val (.int p3), .val (.int p4), .val (.ref ra), .val (.ref va), .val (.ref rb), .unset] [(.int (((p0.toUInt32 >>> ((2 : Int32) &&& 31).toUInt32).toInt32) &&& (3 : Int32))), (.int v84)])) _
                    refine XS.icmpNo X43.here hx rfl (hb hby at_153) rfl (teq hc88).2 ?_
                    show Steps p.tables e below (T43.setTop (mkF m 156 #[.val (.int p0), .val (.int p1), .val (.int p2), .val (.int p3), .val (.int p4), .val (.ref ra), .val (.ref va), .val (.ref rb), .unset] [])) _
                    exact Steps.refl _)
                have q90 : Steps p.tables e below (s₁.setTop (entryFrame m #[(.int p0), (.int p1), (.int p2), (.int p3), (.int p4)] maxLocals)) (T43.setTop (mkF m 159 #[.val (.int p0), .val (.int p1), .val (.int p2), .val (.int p3), .val (.int p4), .val (.ref ra), .val (.ref va), .val (.ref rb), .unset] [(.int (2 : Int32)), (.ref ra)])) := q89.trans (by
                    show Steps p.tables e below (T43.setTop (mkF m 156 #[.val (.int p0), .val (.int p1), .val (.int p2), .val (.int p3), .val (.int p4), .val (.ref ra), .val (.ref va), .val (.ref rb), .unset] [])) _
                    refine XS.aload X43.here hx rfl (hb hby at_156) rfl rfl ?_
                    show Steps p.tables e below (T43.setTop (mkF m 158 #[.val (.int p0), .val (.int p1), .val (.int p2), .val (.int p3), .val (.int p4), .val (.ref ra), .val (.ref va), .val (.ref rb), .unset] [(.ref ra)])) _
                    refine XS.iconst X43.here hx rfl (hb hby at_158) ?_
                    show Steps p.tables e below (T43.setTop (mkF m 159 #[.val (.int p0), .val (.int p1), .val (.int p2), .val (.int p3), .val (.int p4), .val (.ref ra), .val (.ref va), .val (.ref rb), .unset] [(.int (2 : Int32)), (.ref ra)])) _
                    exact Steps.refl _)
                obtain ⟨v91, hv91, hM⟩ := Option.bind_eq_some_iff.mp hM
                have q92 : Steps p.tables e below (s₁.setTop (entryFrame m #[(.int p0), (.int p1), (.int p2), (.int p3), (.int p4)] maxLocals)) (T43.setTop (mkF m 160 #[.val (.int p0), .val (.int p1), .val (.int p2), .val (.int p3), .val (.int p4), .val (.ref ra), .val (.ref va), .val (.ref rb), .unset] [(.int v91)])) := q90.trans (Own.ldO X43 hx hZ rfl Ira_43 hv91 (g := (mkF m 159 #[.val (.int p0), .val (.int p1), .val (.int p2), .val (.int p3), .val (.int p4), .val (.ref ra), .val (.ref va), .val (.ref rb), .unset] [(.int (2 : Int32)), (.ref ra)])) rfl rfl (hb hby at_159) _ (Steps.refl _))
                have q93 : Steps p.tables e below (s₁.setTop (entryFrame m #[(.int p0), (.int p1), (.int p2), (.int p3), (.int p4)] maxLocals)) (T43.setTop (mkF m 165 #[.val (.int p0), .val (.int p1), .val (.int p2), .val (.int p3), .val (.int p4), .val (.ref ra), .val (.ref va), .val (.ref rb), .unset] [(.int (((p0.toUInt32 >>> ((4 : Int32) &&& 31).toUInt32).toInt32) &&& (3 : Int32))), (.int v91)])) := q92.trans (by
                    show Steps p.tables e below (T43.setTop (mkF m 160 #[.val (.int p0), .val (.int p1), .val (.int p2), .val (.int p3), .val (.int p4), .val (.ref ra), .val (.ref va), .val (.ref rb), .unset] [(.int v91)])) _
                    refine XS.iloadN X43.here hx rfl (hb hby at_160) rfl ?_
                    show Steps p.tables e below (T43.setTop (mkF m 161 #[.val (.int p0), .val (.int p1), .val (.int p2), .val (.int p3), .val (.int p4), .val (.ref ra), .val (.ref va), .val (.ref rb), .unset] [(.int p0), (.int v91)])) _
                    refine XS.iconst X43.here hx rfl (hb hby at_161) ?_
                    show Steps p.tables e below (T43.setTop (mkF m 162 #[.val (.int p0), .val (.int p1), .val (.int p2), .val (.int p3), .val (.int p4), .val (.ref ra), .val (.ref va), .val (.ref rb), .unset] [(.int (4 : Int32)), (.int p0), (.int v91)])) _
                    refine XS.iushr X43.here hx rfl (hb hby at_162) rfl ?_
                    show Steps p.tables e below (T43.setTop (mkF m 163 #[.val (.int p0), .val (.int p1), .val (.int p2), .val (.int p3), .val (.int p4), .val (.ref ra), .val (.ref va), .val (.ref rb), .unset] [(.int ((p0.toUInt32 >>> ((4 : Int32) &&& 31).toUInt32).toInt32)), (.int v91)])) _
                    refine XS.iconst X43.here hx rfl (hb hby at_163) ?_
                    show Steps p.tables e below (T43.setTop (mkF m 164 #[.val (.int p0), .val (.int p1), .val (.int p2), .val (.int p3), .val (.int p4), .val (.ref ra), .val (.ref va), .val (.ref rb), .unset] [(.int (3 : Int32)), (.int ((p0.toUInt32 >>> ((4 : Int32) &&& 31).toUInt32).toInt32)), (.int v91)])) _
                    refine XS.iand X43.here hx rfl (hb hby at_164) rfl ?_
                    show Steps p.tables e below (T43.setTop (mkF m 165 #[.val (.int p0), .val (.int p1), .val (.int p2), .val (.int p3), .val (.int p4), .val (.ref ra), .val (.ref va), .val (.ref rb), .unset] [(.int (((p0.toUInt32 >>> ((4 : Int32) &&& 31).toUInt32).toInt32) &&& (3 : Int32))), (.int v91)])) _
                    exact Steps.refl _)
                by_cases hc95 : v91 = (((p0.toUInt32 >>> ((4 : Int32) &&& 31).toUInt32).toInt32) &&& (3 : Int32))
                · rw [if_pos hc95] at hM
                  have q96 : Steps p.tables e below (s₁.setTop (entryFrame m #[(.int p0), (.int p1), (.int p2), (.int p3), (.int p4)] maxLocals)) (T43.setTop (mkF m 168 #[.val (.int p0), .val (.int p1), .val (.int p2), .val (.int p3), .val (.int p4), .val (.ref ra), .val (.ref va), .val (.ref rb), .unset] [])) := q93.trans (by
                      show Steps p.tables e below (T43.setTop (mkF m 165 #[.val (.int p0), .val (.int p1), .val (.int p2), .val (.int p3), .val (.int p4), .val (.ref ra), .val (.ref va), .val (.ref rb), .unset] [(.int (((p0.toUInt32 >>> ((4 : Int32) &&& 31).toUInt32).toInt32) &&& (3 : Int32))), (.int v91)])) _
                      refine XS.icmpNo X43.here hx rfl (hb hby at_165) rfl (teq hc95).2 ?_
                      show Steps p.tables e below (T43.setTop (mkF m 168 #[.val (.int p0), .val (.int p1), .val (.int p2), .val (.int p3), .val (.int p4), .val (.ref ra), .val (.ref va), .val (.ref rb), .unset] [])) _
                      exact Steps.refl _)
                  have q97 : Steps p.tables e below (s₁.setTop (entryFrame m #[(.int p0), (.int p1), (.int p2), (.int p3), (.int p4)] maxLocals)) (T43.setTop (mkF m 171 #[.val (.int p0), .val (.int p1), .val (.int p2), .val (.int p3), .val (.int p4), .val (.ref ra), .val (.ref va), .val (.ref rb), .unset] [(.int (3 : Int32)), (.ref ra)])) := q96.trans (by
                      show Steps p.tables e below (T43.setTop (mkF m 168 #[.val (.int p0), .val (.int p1), .val (.int p2), .val (.int p3), .val (.int p4), .val (.ref ra), .val (.ref va), .val (.ref rb), .unset] [])) _
                      refine XS.aload X43.here hx rfl (hb hby at_168) rfl rfl ?_
                      show Steps p.tables e below (T43.setTop (mkF m 170 #[.val (.int p0), .val (.int p1), .val (.int p2), .val (.int p3), .val (.int p4), .val (.ref ra), .val (.ref va), .val (.ref rb), .unset] [(.ref ra)])) _
                      refine XS.iconst X43.here hx rfl (hb hby at_170) ?_
                      show Steps p.tables e below (T43.setTop (mkF m 171 #[.val (.int p0), .val (.int p1), .val (.int p2), .val (.int p3), .val (.int p4), .val (.ref ra), .val (.ref va), .val (.ref rb), .unset] [(.int (3 : Int32)), (.ref ra)])) _
                      exact Steps.refl _)
                  obtain ⟨v98, hv98, hM⟩ := Option.bind_eq_some_iff.mp hM
                  have q99 : Steps p.tables e below (s₁.setTop (entryFrame m #[(.int p0), (.int p1), (.int p2), (.int p3), (.int p4)] maxLocals)) (T43.setTop (mkF m 172 #[.val (.int p0), .val (.int p1), .val (.int p2), .val (.int p3), .val (.int p4), .val (.ref ra), .val (.ref va), .val (.ref rb), .unset] [(.int v98)])) := q97.trans (Own.ldO X43 hx hZ rfl Ira_43 hv98 (g := (mkF m 171 #[.val (.int p0), .val (.int p1), .val (.int p2), .val (.int p3), .val (.int p4), .val (.ref ra), .val (.ref va), .val (.ref rb), .unset] [(.int (3 : Int32)), (.ref ra)])) rfl rfl (hb hby at_171) _ (Steps.refl _))
                  have q100 : Steps p.tables e below (s₁.setTop (entryFrame m #[(.int p0), (.int p1), (.int p2), (.int p3), (.int p4)] maxLocals)) (T43.setTop (mkF m 178 #[.val (.int p0), .val (.int p1), .val (.int p2), .val (.int p3), .val (.int p4), .val (.ref ra), .val (.ref va), .val (.ref rb), .unset] [(.int (((p0.toUInt32 >>> ((6 : Int32) &&& 31).toUInt32).toInt32) &&& (3 : Int32))), (.int v98)])) := q99.trans (by
                      show Steps p.tables e below (T43.setTop (mkF m 172 #[.val (.int p0), .val (.int p1), .val (.int p2), .val (.int p3), .val (.int p4), .val (.ref ra), .val (.ref va), .val (.ref rb), .unset] [(.int v98)])) _
                      refine XS.iloadN X43.here hx rfl (hb hby at_172) rfl ?_
                      show Steps p.tables e below (T43.setTop (mkF m 173 #[.val (.int p0), .val (.int p1), .val (.int p2), .val (.int p3), .val (.int p4), .val (.ref ra), .val (.ref va), .val (.ref rb), .unset] [(.int p0), (.int v98)])) _
                      refine XS.bipush X43.here hx rfl (hb hby at_173) ?_
                      show Steps p.tables e below (T43.setTop (mkF m 175 #[.val (.int p0), .val (.int p1), .val (.int p2), .val (.int p3), .val (.int p4), .val (.ref ra), .val (.ref va), .val (.ref rb), .unset] [(.int (6 : Int32)), (.int p0), (.int v98)])) _
                      refine XS.iushr X43.here hx rfl (hb hby at_175) rfl ?_
                      show Steps p.tables e below (T43.setTop (mkF m 176 #[.val (.int p0), .val (.int p1), .val (.int p2), .val (.int p3), .val (.int p4), .val (.ref ra), .val (.ref va), .val (.ref rb), .unset] [(.int ((p0.toUInt32 >>> ((6 : Int32) &&& 31).toUInt32).toInt32)), (.int v98)])) _
                      refine XS.iconst X43.here hx rfl (hb hby at_176) ?_
                      show Steps p.tables e below (T43.setTop (mkF m 177 #[.val (.int p0), .val (.int p1), .val (.int p2), .val (.int p3), .val (.int p4), .val (.ref ra), .val (.ref va), .val (.ref rb), .unset] [(.int (3 : Int32)), (.int ((p0.toUInt32 >>> ((6 : Int32) &&& 31).toUInt32).toInt32)), (.int v98)])) _
                      refine XS.iand X43.here hx rfl (hb hby at_177) rfl ?_
                      show Steps p.tables e below (T43.setTop (mkF m 178 #[.val (.int p0), .val (.int p1), .val (.int p2), .val (.int p3), .val (.int p4), .val (.ref ra), .val (.ref va), .val (.ref rb), .unset] [(.int (((p0.toUInt32 >>> ((6 : Int32) &&& 31).toUInt32).toInt32) &&& (3 : Int32))), (.int v98)])) _
                      exact Steps.refl _)
                  obtain ⟨v102, hv102, hM⟩ := Option.bind_eq_some_iff.mp hM
                  have hv102 := (Option.some.inj hv102).symm
                  have q103 : Steps p.tables e below (s₁.setTop (entryFrame m #[(.int p0), (.int p1), (.int p2), (.int p3), (.int p4)] maxLocals)) (T43.setTop (mkF m 186 #[.val (.int p0), .val (.int p1), .val (.int p2), .val (.int p3), .val (.int p4), .val (.ref ra), .val (.ref va), .val (.ref rb), .unset] [(.int v102)])) := by
                    refine q100.trans ?_
                    show Steps p.tables e below (T43.setTop (mkF m 178 #[.val (.int p0), .val (.int p1), .val (.int p2), .val (.int p3), .val (.int p4), .val (.ref ra), .val (.ref va), .val (.ref rb), .unset] [(.int (((p0.toUInt32 >>> ((6 : Int32) &&& 31).toUInt32).toInt32) &&& (3 : Int32))), (.int v98)])) _
                    by_cases hc101 : v98 = (((p0.toUInt32 >>> ((6 : Int32) &&& 31).toUInt32).toInt32) &&& (3 : Int32))
                    · rw [if_pos hc101] at hv102
                      refine XS.icmpNo X43.here hx rfl (hb hby at_178) rfl (teq hc101).2 ?_
                      show Steps p.tables e below (T43.setTop (mkF m 181 #[.val (.int p0), .val (.int p1), .val (.int p2), .val (.int p3), .val (.int p4), .val (.ref ra), .val (.ref va), .val (.ref rb), .unset] [])) _
                      refine XS.iconst X43.here hx rfl (hb hby at_181) ?_
                      show Steps p.tables e below (T43.setTop (mkF m 182 #[.val (.int p0), .val (.int p1), .val (.int p2), .val (.int p3), .val (.int p4), .val (.ref ra), .val (.ref va), .val (.ref rb), .unset] [(.int (1 : Int32))])) _
                      refine XS.goto X43.here hx rfl (pc0 := 182) (pc' := 186) rfl (hb hby at_182) (by decide) (by decide) ?_
                      show Steps p.tables e below (T43.setTop (mkF m 186 #[.val (.int p0), .val (.int p1), .val (.int p2), .val (.int p3), .val (.int p4), .val (.ref ra), .val (.ref va), .val (.ref rb), .unset] [(.int (1 : Int32))])) _
                      rw [hv102]
                      exact Steps.refl _
                    · rw [if_neg hc101] at hv102
                      refine XS.icmpYes X43.here hx rfl (pc0 := 178) (pc' := 185) rfl (hb hby at_178) rfl (feq hc101).2 (by decide) (by decide) ?_
                      show Steps p.tables e below (T43.setTop (mkF m 185 #[.val (.int p0), .val (.int p1), .val (.int p2), .val (.int p3), .val (.int p4), .val (.ref ra), .val (.ref va), .val (.ref rb), .unset] [])) _
                      refine XS.iconst X43.here hx rfl (hb hby at_185) ?_
                      show Steps p.tables e below (T43.setTop (mkF m 186 #[.val (.int p0), .val (.int p1), .val (.int p2), .val (.int p3), .val (.int p4), .val (.ref ra), .val (.ref va), .val (.ref rb), .unset] [(.int (0 : Int32))])) _
                      rw [hv102]
                      exact Steps.refl _
                  have q104 : Steps p.tables e below (s₁.setTop (entryFrame m #[(.int p0), (.int p1), (.int p2), (.int p3), (.int p4)] maxLocals)) (T43.setTop (mkF m 190 #[.val (.int p0), .val (.int p1), .val (.int p2), .val (.int p3), .val (.int p4), .val (.ref ra), .val (.ref va), .val (.ref rb), .val (.int v102)] [(.int v102)])) := q103.trans (by
                      show Steps p.tables e below (T43.setTop (mkF m 186 #[.val (.int p0), .val (.int p1), .val (.int p2), .val (.int p3), .val (.int p4), .val (.ref ra), .val (.ref va), .val (.ref rb), .unset] [(.int v102)])) _
                      refine XS.istore X43.here hx rfl (hb hby at_186) rfl (l' := #[.val (.int p0), .val (.int p1), .val (.int p2), .val (.int p3), .val (.int p4), .val (.ref ra), .val (.ref va), .val (.ref rb), .val (.int v102)]) rfl ?_
                      show Steps p.tables e below (T43.setTop (mkF m 188 #[.val (.int p0), .val (.int p1), .val (.int p2), .val (.int p3), .val (.int p4), .val (.ref ra), .val (.ref va), .val (.ref rb), .val (.int v102)] [])) _
                      refine XS.iload X43.here hx rfl (hb hby at_188) rfl ?_
                      show Steps p.tables e below (T43.setTop (mkF m 190 #[.val (.int p0), .val (.int p1), .val (.int p2), .val (.int p3), .val (.int p4), .val (.ref ra), .val (.ref va), .val (.ref rb), .val (.int v102)] [(.int v102)])) _
                      exact Steps.refl _)
                  by_cases hc105 : v102 = (0 : Int32)
                  · rw [if_pos hc105] at hM
                    have q106 : Steps p.tables e below (s₁.setTop (entryFrame m #[(.int p0), (.int p1), (.int p2), (.int p3), (.int p4)] maxLocals)) (T43.setTop (mkF m 265 #[.val (.int p0), .val (.int p1), .val (.int p2), .val (.int p3), .val (.int p4), .val (.ref ra), .val (.ref va), .val (.ref rb), .val (.int v102)] [])) := q104.trans (by
                        show Steps p.tables e below (T43.setTop (mkF m 190 #[.val (.int p0), .val (.int p1), .val (.int p2), .val (.int p3), .val (.int p4), .val (.ref ra), .val (.ref va), .val (.ref rb), .val (.int v102)] [(.int v102)])) _
                        refine XS.ifYes X43.here hx rfl (pc0 := 190) (pc' := 265) rfl (hb hby at_190) rfl ((if0 _ _).trans (teq hc105).1) (by decide) (by decide) ?_
                        show Steps p.tables e below (T43.setTop (mkF m 265 #[.val (.int p0), .val (.int p1), .val (.int p2), .val (.int p3), .val (.int p4), .val (.ref ra), .val (.ref va), .val (.ref rb), .val (.int v102)] [])) _
                        exact Steps.refl _)
                    cases hM
                  · rw [if_neg hc105] at hM
                    have q107 : Steps p.tables e below (s₁.setTop (entryFrame m #[(.int p0), (.int p1), (.int p2), (.int p3), (.int p4)] maxLocals)) (T43.setTop (mkF m 193 #[.val (.int p0), .val (.int p1), .val (.int p2), .val (.int p3), .val (.int p4), .val (.ref ra), .val (.ref va), .val (.ref rb), .val (.int v102)] [])) := q104.trans (by
                        show Steps p.tables e below (T43.setTop (mkF m 190 #[.val (.int p0), .val (.int p1), .val (.int p2), .val (.int p3), .val (.int p4), .val (.ref ra), .val (.ref va), .val (.ref rb), .val (.int v102)] [(.int v102)])) _
                        refine XS.ifNo X43.here hx rfl (hb hby at_190) rfl ((if0 _ _).trans (feq hc105).1) ?_
                        show Steps p.tables e below (T43.setTop (mkF m 193 #[.val (.int p0), .val (.int p1), .val (.int p2), .val (.int p3), .val (.int p4), .val (.ref ra), .val (.ref va), .val (.ref rb), .val (.int v102)] [])) _
                        exact Steps.refl _)
                    have q108 : Steps p.tables e below (s₁.setTop (entryFrame m #[(.int p0), (.int p1), (.int p2), (.int p3), (.int p4)] maxLocals)) (T43.setTop (mkF m 196 #[.val (.int p0), .val (.int p1), .val (.int p2), .val (.int p3), .val (.int p4), .val (.ref ra), .val (.ref va), .val (.ref rb), .val (.int v102)] [(.int (0 : Int32)), (.ref rb)])) := q107.trans (by
                        show Steps p.tables e below (T43.setTop (mkF m 193 #[.val (.int p0), .val (.int p1), .val (.int p2), .val (.int p3), .val (.int p4), .val (.ref ra), .val (.ref va), .val (.ref rb), .val (.int v102)] [])) _
                        refine XS.aload X43.here hx rfl (hb hby at_193) rfl rfl ?_
                        show Steps p.tables e below (T43.setTop (mkF m 195 #[.val (.int p0), .val (.int p1), .val (.int p2), .val (.int p3), .val (.int p4), .val (.ref ra), .val (.ref va), .val (.ref rb), .val (.int v102)] [(.ref rb)])) _
                        refine XS.iconst X43.here hx rfl (hb hby at_195) ?_
                        show Steps p.tables e below (T43.setTop (mkF m 196 #[.val (.int p0), .val (.int p1), .val (.int p2), .val (.int p3), .val (.int p4), .val (.ref ra), .val (.ref va), .val (.ref rb), .val (.int v102)] [(.int (0 : Int32)), (.ref rb)])) _
                        exact Steps.refl _)
                    obtain ⟨v109, hv109, hM⟩ := Option.bind_eq_some_iff.mp hM
                    have q110 : Steps p.tables e below (s₁.setTop (entryFrame m #[(.int p0), (.int p1), (.int p2), (.int p3), (.int p4)] maxLocals)) (T43.setTop (mkF m 197 #[.val (.int p0), .val (.int p1), .val (.int p2), .val (.int p3), .val (.int p4), .val (.ref ra), .val (.ref va), .val (.ref rb), .val (.int v102)] [(.double v109)])) := q108.trans (Own.ldDO X43 hx hZ rfl Jr hv109 (g := (mkF m 196 #[.val (.int p0), .val (.int p1), .val (.int p2), .val (.int p3), .val (.int p4), .val (.ref ra), .val (.ref va), .val (.ref rb), .val (.int v102)] [(.int (0 : Int32)), (.ref rb)])) rfl rfl (hb hby at_196) _ (Steps.refl _))
                    have q111 : Steps p.tables e below (s₁.setTop (entryFrame m #[(.int p0), (.int p1), (.int p2), (.int p3), (.int p4)] maxLocals)) (T43.setTop (mkF m 202 #[.val (.int p0), .val (.int p1), .val (.int p2), .val (.int p3), .val (.int p4), .val (.ref ra), .val (.ref va), .val (.ref rb), .val (.int v102)] [(.int (0 : Int32)), (.ref ra), (.ref va), (.double v109)])) := q110.trans (by
                        show Steps p.tables e below (T43.setTop (mkF m 197 #[.val (.int p0), .val (.int p1), .val (.int p2), .val (.int p3), .val (.int p4), .val (.ref ra), .val (.ref va), .val (.ref rb), .val (.int v102)] [(.double v109)])) _
                        refine XS.aload X43.here hx rfl (hb hby at_197) rfl rfl ?_
                        show Steps p.tables e below (T43.setTop (mkF m 199 #[.val (.int p0), .val (.int p1), .val (.int p2), .val (.int p3), .val (.int p4), .val (.ref ra), .val (.ref va), .val (.ref rb), .val (.int v102)] [(.ref va), (.double v109)])) _
                        refine XS.aload X43.here hx rfl (hb hby at_199) rfl rfl ?_
                        show Steps p.tables e below (T43.setTop (mkF m 201 #[.val (.int p0), .val (.int p1), .val (.int p2), .val (.int p3), .val (.int p4), .val (.ref ra), .val (.ref va), .val (.ref rb), .val (.int v102)] [(.ref ra), (.ref va), (.double v109)])) _
                        refine XS.iconst X43.here hx rfl (hb hby at_201) ?_
                        show Steps p.tables e below (T43.setTop (mkF m 202 #[.val (.int p0), .val (.int p1), .val (.int p2), .val (.int p3), .val (.int p4), .val (.ref ra), .val (.ref va), .val (.ref rb), .val (.int v102)] [(.int (0 : Int32)), (.ref ra), (.ref va), (.double v109)])) _
                        exact Steps.refl _)
                    obtain ⟨r112, hr112, hM⟩ := Option.bind_eq_some_iff.mp hM
                    obtain ⟨_, _, ⟨T113, L113, k113, n113⟩, -, X113, ⟨Lc113, hQ113, l113, y113, z113⟩, st113⟩ := Jvm.LawKit.callS X43 hx (y := (⟨"com/example/pareto_workflow_scheduler/paretoworkflowscheduler/algorithm/ReferencePointsAlikePinLaw", "first", "([II)I"⟩ : MethodName)) hown (mvT hZ (hw _ (List.mem_of_getElem? (i := 7) rfl))) (mvT hZ (hw _ (List.mem_of_getElem? (i := 8) rfl))) (mvT hZ (hw _ (List.mem_of_getElem? (i := 9) rfl))) (mvT hZ (hw _ (List.mem_of_getElem? (i := 10) rfl))) (by decide) (backOf (W := 3) (rmF l Z a0 hw [] ra (0 : Int32) y18 r112 T43.heap n0 Z43 Ira_43 hr112) hZ (hw _ (List.mem_of_getElem? (i := 10) rfl)) (hw _ (List.mem_of_getElem? (i := 9) rfl)) (by decide) (by decide)) (g := (mkF m 202 #[.val (.int p0), .val (.int p1), .val (.int p2), .val (.int p3), .val (.int p4), .val (.ref ra), .val (.ref va), .val (.ref rb), .val (.int v102)] [(.int (0 : Int32)), (.ref ra), (.ref va), (.double v109)])) rfl (by rw [hml]; rfl) (argsL := [(.ref ra), (.int (0 : Int32))]) (rest := [(.ref va), (.double v109)]) (lenOf pd_1 rfl) rfl (by show 2 * 0 + _ ≤ _; exact Nat.le_of_eq rfl) (hb hby at_202) (fun _ _ => ⟨rfl, rfl, (by decide : 5 + 0 ≤ _), (by decide : 20 + 0 ≤ _)⟩)
                    dsimp only [Pt.U, Pt.locs, Pt.cells, Pt.slots] at X113 l113 y113 z113 st113 hQ113
                    subst l113 y113 z113
                    obtain ⟨rfl, N113q, e113⟩ := hQ113
                    have N113 := Fr.app N43 N113q
                    have q114 : Steps p.tables e below (s₁.setTop (entryFrame m #[(.int p0), (.int p1), (.int p2), (.int p3), (.int p4)] maxLocals)) (T113.setTop (mkF m 205 #[.val (.int p0), .val (.int p1), .val (.int p2), .val (.int p3), .val (.int p4), .val (.ref ra), .val (.ref va), .val (.ref rb), .val (.int v102)] [(.int r112), (.ref va), (.double v109)])) := q111.trans (st113 _ (Steps.refl _))
                    obtain ⟨v115, hv115, hM⟩ := Option.bind_eq_some_iff.mp hM
                    have q116 : Steps p.tables e below (s₁.setTop (entryFrame m #[(.int p0), (.int p1), (.int p2), (.int p3), (.int p4)] maxLocals)) (T113.setTop (mkF m 206 #[.val (.int p0), .val (.int p1), .val (.int p2), .val (.int p3), .val (.int p4), .val (.ref ra), .val (.ref va), .val (.ref rb), .val (.int v102)] [(.double v115), (.double v109)])) := q114.trans (Own.ldDO X113 hx hZ e113 Iva_43 hv115 (g := (mkF m 205 #[.val (.int p0), .val (.int p1), .val (.int p2), .val (.int p3), .val (.int p4), .val (.ref ra), .val (.ref va), .val (.ref rb), .val (.int v102)] [(.int r112), (.ref va), (.double v109)])) rfl rfl (hb hby at_205) _ (Steps.refl _))
                    have q117 : Steps p.tables e below (s₁.setTop (entryFrame m #[(.int p0), (.int p1), (.int p2), (.int p3), (.int p4)] maxLocals)) (T113.setTop (mkF m 207 #[.val (.int p0), .val (.int p1), .val (.int p2), .val (.int p3), .val (.int p4), .val (.ref ra), .val (.ref va), .val (.ref rb), .val (.int v102)] [(.int (cmpValue (FP.dcmp v109 v115) .l))])) := q116.trans (by
                        show Steps p.tables e below (T113.setTop (mkF m 206 #[.val (.int p0), .val (.int p1), .val (.int p2), .val (.int p3), .val (.int p4), .val (.ref ra), .val (.ref va), .val (.ref rb), .val (.int v102)] [(.double v115), (.double v109)])) _
                        refine XS.dcmpS X113.here hx rfl (hb hby at_206) rfl rfl ?_
                        show Steps p.tables e below (T113.setTop (mkF m 207 #[.val (.int p0), .val (.int p1), .val (.int p2), .val (.int p3), .val (.int p4), .val (.ref ra), .val (.ref va), .val (.ref rb), .val (.int v102)] [(.int (cmpValue (FP.dcmp v109 v115) .l))])) _
                        exact Steps.refl _)
                    by_cases hc118 : (cmpValue (FP.dcmp v109 v115) .l) = (0 : Int32)
                    · rw [if_pos hc118] at hM
                      have q119 : Steps p.tables e below (s₁.setTop (entryFrame m #[(.int p0), (.int p1), (.int p2), (.int p3), (.int p4)] maxLocals)) (T113.setTop (mkF m 210 #[.val (.int p0), .val (.int p1), .val (.int p2), .val (.int p3), .val (.int p4), .val (.ref ra), .val (.ref va), .val (.ref rb), .val (.int v102)] [])) := q117.trans (by
                          show Steps p.tables e below (T113.setTop (mkF m 207 #[.val (.int p0), .val (.int p1), .val (.int p2), .val (.int p3), .val (.int p4), .val (.ref ra), .val (.ref va), .val (.ref rb), .val (.int v102)] [(.int (cmpValue (FP.dcmp v109 v115) .l))])) _
                          refine XS.ifNo X113.here hx rfl (hb hby at_207) rfl ((if0 _ _).trans (teq hc118).2) ?_
                          show Steps p.tables e below (T113.setTop (mkF m 210 #[.val (.int p0), .val (.int p1), .val (.int p2), .val (.int p3), .val (.int p4), .val (.ref ra), .val (.ref va), .val (.ref rb), .val (.int v102)] [])) _
                          exact Steps.refl _)
                      have q120 : Steps p.tables e below (s₁.setTop (entryFrame m #[(.int p0), (.int p1), (.int p2), (.int p3), (.int p4)] maxLocals)) (T113.setTop (mkF m 213 #[.val (.int p0), .val (.int p1), .val (.int p2), .val (.int p3), .val (.int p4), .val (.ref ra), .val (.ref va), .val (.ref rb), .val (.int v102)] [(.int (1 : Int32)), (.ref rb)])) := q119.trans (by
                          show Steps p.tables e below (T113.setTop (mkF m 210 #[.val (.int p0), .val (.int p1), .val (.int p2), .val (.int p3), .val (.int p4), .val (.ref ra), .val (.ref va), .val (.ref rb), .val (.int v102)] [])) _
                          refine XS.aload X113.here hx rfl (hb hby at_210) rfl rfl ?_
                          show Steps p.tables e below (T113.setTop (mkF m 212 #[.val (.int p0), .val (.int p1), .val (.int p2), .val (.int p3), .val (.int p4), .val (.ref ra), .val (.ref va), .val (.ref rb), .val (.int v102)] [(.ref rb)])) _
                          refine XS.iconst X113.here hx rfl (hb hby at_212) ?_
                          show Steps p.tables e below (T113.setTop (mkF m 213 #[.val (.int p0), .val (.int p1), .val (.int p2), .val (.int p3), .val (.int p4), .val (.ref ra), .val (.ref va), .val (.ref rb), .val (.int v102)] [(.int (1 : Int32)), (.ref rb)])) _
                          exact Steps.refl _)
                      obtain ⟨v121, hv121, hM⟩ := Option.bind_eq_some_iff.mp hM
                      have q122 : Steps p.tables e below (s₁.setTop (entryFrame m #[(.int p0), (.int p1), (.int p2), (.int p3), (.int p4)] maxLocals)) (T113.setTop (mkF m 214 #[.val (.int p0), .val (.int p1), .val (.int p2), .val (.int p3), .val (.int p4), .val (.ref ra), .val (.ref va), .val (.ref rb), .val (.int v102)] [(.double v121)])) := q120.trans (Own.ldDO X113 hx hZ e113 Jr hv121 (g := (mkF m 213 #[.val (.int p0), .val (.int p1), .val (.int p2), .val (.int p3), .val (.int p4), .val (.ref ra), .val (.ref va), .val (.ref rb), .val (.int v102)] [(.int (1 : Int32)), (.ref rb)])) rfl rfl (hb hby at_213) _ (Steps.refl _))
                      have q123 : Steps p.tables e below (s₁.setTop (entryFrame m #[(.int p0), (.int p1), (.int p2), (.int p3), (.int p4)] maxLocals)) (T113.setTop (mkF m 219 #[.val (.int p0), .val (.int p1), .val (.int p2), .val (.int p3), .val (.int p4), .val (.ref ra), .val (.ref va), .val (.ref rb), .val (.int v102)] [(.int (1 : Int32)), (.ref ra), (.ref va), (.double v121)])) := q122.trans (by
                          show Steps p.tables e below (T113.setTop (mkF m 214 #[.val (.int p0), .val (.int p1), .val (.int p2), .val (.int p3), .val (.int p4), .val (.ref ra), .val (.ref va), .val (.ref rb), .val (.int v102)] [(.double v121)])) _
                          refine XS.aload X113.here hx rfl (hb hby at_214) rfl rfl ?_
                          show Steps p.tables e below (T113.setTop (mkF m 216 #[.val (.int p0), .val (.int p1), .val (.int p2), .val (.int p3), .val (.int p4), .val (.ref ra), .val (.ref va), .val (.ref rb), .val (.int v102)] [(.ref va), (.double v121)])) _
                          refine XS.aload X113.here hx rfl (hb hby at_216) rfl rfl ?_
                          show Steps p.tables e below (T113.setTop (mkF m 218 #[.val (.int p0), .val (.int p1), .val (.int p2), .val (.int p3), .val (.int p4), .val (.ref ra), .val (.ref va), .val (.ref rb), .val (.int v102)] [(.ref ra), (.ref va), (.double v121)])) _
                          refine XS.iconst X113.here hx rfl (hb hby at_218) ?_
                          show Steps p.tables e below (T113.setTop (mkF m 219 #[.val (.int p0), .val (.int p1), .val (.int p2), .val (.int p3), .val (.int p4), .val (.ref ra), .val (.ref va), .val (.ref rb), .val (.int v102)] [(.int (1 : Int32)), (.ref ra), (.ref va), (.double v121)])) _
                          exact Steps.refl _)
                      obtain ⟨r124, hr124, hM⟩ := Option.bind_eq_some_iff.mp hM
                      obtain ⟨_, _, ⟨T125, L125, k125, n125⟩, -, X125, ⟨Lc125, hQ125, l125, y125, z125⟩, st125⟩ := Jvm.LawKit.callS X113 hx (y := (⟨"com/example/pareto_workflow_scheduler/paretoworkflowscheduler/algorithm/ReferencePointsAlikePinLaw", "first", "([II)I"⟩ : MethodName)) hown (mvT hZ (hw _ (List.mem_of_getElem? (i := 7) rfl))) (mvT hZ (hw _ (List.mem_of_getElem? (i := 8) rfl))) (mvT hZ (hw _ (List.mem_of_getElem? (i := 9) rfl))) (mvT hZ (hw _ (List.mem_of_getElem? (i := 10) rfl))) (by decide) (backOf (W := 3) (rmF l Z a0 hw [] ra (1 : Int32) y18 r124 T43.heap n0 Z43 Ira_43 hr124) hZ (hw _ (List.mem_of_getElem? (i := 10) rfl)) (hw _ (List.mem_of_getElem? (i := 9) rfl)) (by decide) (by decide)) (g := (mkF m 219 #[.val (.int p0), .val (.int p1), .val (.int p2), .val (.int p3), .val (.int p4), .val (.ref ra), .val (.ref va), .val (.ref rb), .val (.int v102)] [(.int (1 : Int32)), (.ref ra), (.ref va), (.double v121)])) rfl (by rw [hml]; rfl) (argsL := [(.ref ra), (.int (1 : Int32))]) (rest := [(.ref va), (.double v121)]) (lenOf pd_1 rfl) rfl (by show 2 * 0 + _ ≤ _; exact Nat.le_of_eq rfl) (hb hby at_219) (fun _ _ => ⟨rfl, e113, (by decide : 5 + 0 ≤ _), (by decide : 20 + 0 ≤ _)⟩)
                      dsimp only [Pt.U, Pt.locs, Pt.cells, Pt.slots] at X125 l125 y125 z125 st125 hQ125
                      subst l125 y125 z125
                      obtain ⟨rfl, N125q, e125⟩ := hQ125
                      have N125 := Fr.app N113 N125q
                      have q126 : Steps p.tables e below (s₁.setTop (entryFrame m #[(.int p0), (.int p1), (.int p2), (.int p3), (.int p4)] maxLocals)) (T125.setTop (mkF m 222 #[.val (.int p0), .val (.int p1), .val (.int p2), .val (.int p3), .val (.int p4), .val (.ref ra), .val (.ref va), .val (.ref rb), .val (.int v102)] [(.int r124), (.ref va), (.double v121)])) := q123.trans (st125 _ (Steps.refl _))
                      obtain ⟨v127, hv127, hM⟩ := Option.bind_eq_some_iff.mp hM
                      have q128 : Steps p.tables e below (s₁.setTop (entryFrame m #[(.int p0), (.int p1), (.int p2), (.int p3), (.int p4)] maxLocals)) (T125.setTop (mkF m 223 #[.val (.int p0), .val (.int p1), .val (.int p2), .val (.int p3), .val (.int p4), .val (.ref ra), .val (.ref va), .val (.ref rb), .val (.int v102)] [(.double v127), (.double v121)])) := q126.trans (Own.ldDO X125 hx hZ e125 Iva_43 hv127 (g := (mkF m 222 #[.val (.int p0), .val (.int p1), .val (.int p2), .val (.int p3), .val (.int p4), .val (.ref ra), .val (.ref va), .val (.ref rb), .val (.int v102)] [(.int r124), (.ref va), (.double v121)])) rfl rfl (hb hby at_222) _ (Steps.refl _))
                      have q129 : Steps p.tables e below (s₁.setTop (entryFrame m #[(.int p0), (.int p1), (.int p2), (.int p3), (.int p4)] maxLocals)) (T125.setTop (mkF m 224 #[.val (.int p0), .val (.int p1), .val (.int p2), .val (.int p3), .val (.int p4), .val (.ref ra), .val (.ref va), .val (.ref rb), .val (.int v102)] [(.int (cmpValue (FP.dcmp v121 v127) .l))])) := q128.trans (by
                          show Steps p.tables e below (T125.setTop (mkF m 223 #[.val (.int p0), .val (.int p1), .val (.int p2), .val (.int p3), .val (.int p4), .val (.ref ra), .val (.ref va), .val (.ref rb), .val (.int v102)] [(.double v127), (.double v121)])) _
                          refine XS.dcmpS X125.here hx rfl (hb hby at_223) rfl rfl ?_
                          show Steps p.tables e below (T125.setTop (mkF m 224 #[.val (.int p0), .val (.int p1), .val (.int p2), .val (.int p3), .val (.int p4), .val (.ref ra), .val (.ref va), .val (.ref rb), .val (.int v102)] [(.int (cmpValue (FP.dcmp v121 v127) .l))])) _
                          exact Steps.refl _)
                      by_cases hc130 : (cmpValue (FP.dcmp v121 v127) .l) = (0 : Int32)
                      · rw [if_pos hc130] at hM
                        have q131 : Steps p.tables e below (s₁.setTop (entryFrame m #[(.int p0), (.int p1), (.int p2), (.int p3), (.int p4)] maxLocals)) (T125.setTop (mkF m 227 #[.val (.int p0), .val (.int p1), .val (.int p2), .val (.int p3), .val (.int p4), .val (.ref ra), .val (.ref va), .val (.ref rb), .val (.int v102)] [])) := q129.trans (by
                            show Steps p.tables e below (T125.setTop (mkF m 224 #[.val (.int p0), .val (.int p1), .val (.int p2), .val (.int p3), .val (.int p4), .val (.ref ra), .val (.ref va), .val (.ref rb), .val (.int v102)] [(.int (cmpValue (FP.dcmp v121 v127) .l))])) _
                            refine XS.ifNo X125.here hx rfl (hb hby at_224) rfl ((if0 _ _).trans (teq hc130).2) ?_
                            show Steps p.tables e below (T125.setTop (mkF m 227 #[.val (.int p0), .val (.int p1), .val (.int p2), .val (.int p3), .val (.int p4), .val (.ref ra), .val (.ref va), .val (.ref rb), .val (.int v102)] [])) _
                            exact Steps.refl _)
                        have q132 : Steps p.tables e below (s₁.setTop (entryFrame m #[(.int p0), (.int p1), (.int p2), (.int p3), (.int p4)] maxLocals)) (T125.setTop (mkF m 230 #[.val (.int p0), .val (.int p1), .val (.int p2), .val (.int p3), .val (.int p4), .val (.ref ra), .val (.ref va), .val (.ref rb), .val (.int v102)] [(.int (2 : Int32)), (.ref rb)])) := q131.trans (by
                            show Steps p.tables e below (T125.setTop (mkF m 227 #[.val (.int p0), .val (.int p1), .val (.int p2), .val (.int p3), .val (.int p4), .val (.ref ra), .val (.ref va), .val (.ref rb), .val (.int v102)] [])) _
                            refine XS.aload X125.here hx rfl (hb hby at_227) rfl rfl ?_
                            show Steps p.tables e below (T125.setTop (mkF m 229 #[.val (.int p0), .val (.int p1), .val (.int p2), .val (.int p3), .val (.int p4), .val (.ref ra), .val (.ref va), .val (.ref rb), .val (.int v102)] [(.ref rb)])) _
                            refine XS.iconst X125.here hx rfl (hb hby at_229) ?_
                            show Steps p.tables e below (T125.setTop (mkF m 230 #[.val (.int p0), .val (.int p1), .val (.int p2), .val (.int p3), .val (.int p4), .val (.ref ra), .val (.ref va), .val (.ref rb), .val (.int v102)] [(.int (2 : Int32)), (.ref rb)])) _
                            exact Steps.refl _)
                        obtain ⟨v133, hv133, hM⟩ := Option.bind_eq_some_iff.mp hM
                        have q134 : Steps p.tables e below (s₁.setTop (entryFrame m #[(.int p0), (.int p1), (.int p2), (.int p3), (.int p4)] maxLocals)) (T125.setTop (mkF m 231 #[.val (.int p0), .val (.int p1), .val (.int p2), .val (.int p3), .val (.int p4), .val (.ref ra), .val (.ref va), .val (.ref rb), .val (.int v102)] [(.double v133)])) := q132.trans (Own.ldDO X125 hx hZ e125 Jr hv133 (g := (mkF m 230 #[.val (.int p0), .val (.int p1), .val (.int p2), .val (.int p3), .val (.int p4), .val (.ref ra), .val (.ref va), .val (.ref rb), .val (.int v102)] [(.int (2 : Int32)), (.ref rb)])) rfl rfl (hb hby at_230) _ (Steps.refl _))
                        have q135 : Steps p.tables e below (s₁.setTop (entryFrame m #[(.int p0), (.int p1), (.int p2), (.int p3), (.int p4)] maxLocals)) (T125.setTop (mkF m 236 #[.val (.int p0), .val (.int p1), .val (.int p2), .val (.int p3), .val (.int p4), .val (.ref ra), .val (.ref va), .val (.ref rb), .val (.int v102)] [(.int (2 : Int32)), (.ref ra), (.ref va), (.double v133)])) := q134.trans (by
                            show Steps p.tables e below (T125.setTop (mkF m 231 #[.val (.int p0), .val (.int p1), .val (.int p2), .val (.int p3), .val (.int p4), .val (.ref ra), .val (.ref va), .val (.ref rb), .val (.int v102)] [(.double v133)])) _
                            refine XS.aload X125.here hx rfl (hb hby at_231) rfl rfl ?_
                            show Steps p.tables e below (T125.setTop (mkF m 233 #[.val (.int p0), .val (.int p1), .val (.int p2), .val (.int p3), .val (.int p4), .val (.ref ra), .val (.ref va), .val (.ref rb), .val (.int v102)] [(.ref va), (.double v133)])) _
                            refine XS.aload X125.here hx rfl (hb hby at_233) rfl rfl ?_
                            show Steps p.tables e below (T125.setTop (mkF m 235 #[.val (.int p0), .val (.int p1), .val (.int p2), .val (.int p3), .val (.int p4), .val (.ref ra), .val (.ref va), .val (.ref rb), .val (.int v102)] [(.ref ra), (.ref va), (.double v133)])) _
                            refine XS.iconst X125.here hx rfl (hb hby at_235) ?_
                            show Steps p.tables e below (T125.setTop (mkF m 236 #[.val (.int p0), .val (.int p1), .val (.int p2), .val (.int p3), .val (.int p4), .val (.ref ra), .val (.ref va), .val (.ref rb), .val (.int v102)] [(.int (2 : Int32)), (.ref ra), (.ref va), (.double v133)])) _
                            exact Steps.refl _)
                        obtain ⟨r136, hr136, hM⟩ := Option.bind_eq_some_iff.mp hM
                        obtain ⟨_, _, ⟨T137, L137, k137, n137⟩, -, X137, ⟨Lc137, hQ137, l137, y137, z137⟩, st137⟩ := Jvm.LawKit.callS X125 hx (y := (⟨"com/example/pareto_workflow_scheduler/paretoworkflowscheduler/algorithm/ReferencePointsAlikePinLaw", "first", "([II)I"⟩ : MethodName)) hown (mvT hZ (hw _ (List.mem_of_getElem? (i := 7) rfl))) (mvT hZ (hw _ (List.mem_of_getElem? (i := 8) rfl))) (mvT hZ (hw _ (List.mem_of_getElem? (i := 9) rfl))) (mvT hZ (hw _ (List.mem_of_getElem? (i := 10) rfl))) (by decide) (backOf (W := 3) (rmF l Z a0 hw [] ra (2 : Int32) y18 r136 T43.heap n0 Z43 Ira_43 hr136) hZ (hw _ (List.mem_of_getElem? (i := 10) rfl)) (hw _ (List.mem_of_getElem? (i := 9) rfl)) (by decide) (by decide)) (g := (mkF m 236 #[.val (.int p0), .val (.int p1), .val (.int p2), .val (.int p3), .val (.int p4), .val (.ref ra), .val (.ref va), .val (.ref rb), .val (.int v102)] [(.int (2 : Int32)), (.ref ra), (.ref va), (.double v133)])) rfl (by rw [hml]; rfl) (argsL := [(.ref ra), (.int (2 : Int32))]) (rest := [(.ref va), (.double v133)]) (lenOf pd_1 rfl) rfl (by show 2 * 0 + _ ≤ _; exact Nat.le_of_eq rfl) (hb hby at_236) (fun _ _ => ⟨rfl, e125, (by decide : 5 + 0 ≤ _), (by decide : 20 + 0 ≤ _)⟩)
                        dsimp only [Pt.U, Pt.locs, Pt.cells, Pt.slots] at X137 l137 y137 z137 st137 hQ137
                        subst l137 y137 z137
                        obtain ⟨rfl, N137q, e137⟩ := hQ137
                        have N137 := Fr.app N125 N137q
                        have q138 : Steps p.tables e below (s₁.setTop (entryFrame m #[(.int p0), (.int p1), (.int p2), (.int p3), (.int p4)] maxLocals)) (T137.setTop (mkF m 239 #[.val (.int p0), .val (.int p1), .val (.int p2), .val (.int p3), .val (.int p4), .val (.ref ra), .val (.ref va), .val (.ref rb), .val (.int v102)] [(.int r136), (.ref va), (.double v133)])) := q135.trans (st137 _ (Steps.refl _))
                        obtain ⟨v139, hv139, hM⟩ := Option.bind_eq_some_iff.mp hM
                        have q140 : Steps p.tables e below (s₁.setTop (entryFrame m #[(.int p0), (.int p1), (.int p2), (.int p3), (.int p4)] maxLocals)) (T137.setTop (mkF m 240 #[.val (.int p0), .val (.int p1), .val (.int p2), .val (.int p3), .val (.int p4), .val (.ref ra), .val (.ref va), .val (.ref rb), .val (.int v102)] [(.double v139), (.double v133)])) := q138.trans (Own.ldDO X137 hx hZ e137 Iva_43 hv139 (g := (mkF m 239 #[.val (.int p0), .val (.int p1), .val (.int p2), .val (.int p3), .val (.int p4), .val (.ref ra), .val (.ref va), .val (.ref rb), .val (.int v102)] [(.int r136), (.ref va), (.double v133)])) rfl rfl (hb hby at_239) _ (Steps.refl _))
                        have q141 : Steps p.tables e below (s₁.setTop (entryFrame m #[(.int p0), (.int p1), (.int p2), (.int p3), (.int p4)] maxLocals)) (T137.setTop (mkF m 241 #[.val (.int p0), .val (.int p1), .val (.int p2), .val (.int p3), .val (.int p4), .val (.ref ra), .val (.ref va), .val (.ref rb), .val (.int v102)] [(.int (cmpValue (FP.dcmp v133 v139) .l))])) := q140.trans (by
                            show Steps p.tables e below (T137.setTop (mkF m 240 #[.val (.int p0), .val (.int p1), .val (.int p2), .val (.int p3), .val (.int p4), .val (.ref ra), .val (.ref va), .val (.ref rb), .val (.int v102)] [(.double v139), (.double v133)])) _
                            refine XS.dcmpS X137.here hx rfl (hb hby at_240) rfl rfl ?_
                            show Steps p.tables e below (T137.setTop (mkF m 241 #[.val (.int p0), .val (.int p1), .val (.int p2), .val (.int p3), .val (.int p4), .val (.ref ra), .val (.ref va), .val (.ref rb), .val (.int v102)] [(.int (cmpValue (FP.dcmp v133 v139) .l))])) _
                            exact Steps.refl _)
                        by_cases hc142 : (cmpValue (FP.dcmp v133 v139) .l) = (0 : Int32)
                        · rw [if_pos hc142] at hM
                          have q143 : Steps p.tables e below (s₁.setTop (entryFrame m #[(.int p0), (.int p1), (.int p2), (.int p3), (.int p4)] maxLocals)) (T137.setTop (mkF m 244 #[.val (.int p0), .val (.int p1), .val (.int p2), .val (.int p3), .val (.int p4), .val (.ref ra), .val (.ref va), .val (.ref rb), .val (.int v102)] [])) := q141.trans (by
                              show Steps p.tables e below (T137.setTop (mkF m 241 #[.val (.int p0), .val (.int p1), .val (.int p2), .val (.int p3), .val (.int p4), .val (.ref ra), .val (.ref va), .val (.ref rb), .val (.int v102)] [(.int (cmpValue (FP.dcmp v133 v139) .l))])) _
                              refine XS.ifNo X137.here hx rfl (hb hby at_241) rfl ((if0 _ _).trans (teq hc142).2) ?_
                              show Steps p.tables e below (T137.setTop (mkF m 244 #[.val (.int p0), .val (.int p1), .val (.int p2), .val (.int p3), .val (.int p4), .val (.ref ra), .val (.ref va), .val (.ref rb), .val (.int v102)] [])) _
                              exact Steps.refl _)
                          have q144 : Steps p.tables e below (s₁.setTop (entryFrame m #[(.int p0), (.int p1), (.int p2), (.int p3), (.int p4)] maxLocals)) (T137.setTop (mkF m 247 #[.val (.int p0), .val (.int p1), .val (.int p2), .val (.int p3), .val (.int p4), .val (.ref ra), .val (.ref va), .val (.ref rb), .val (.int v102)] [(.int (3 : Int32)), (.ref rb)])) := q143.trans (by
                              show Steps p.tables e below (T137.setTop (mkF m 244 #[.val (.int p0), .val (.int p1), .val (.int p2), .val (.int p3), .val (.int p4), .val (.ref ra), .val (.ref va), .val (.ref rb), .val (.int v102)] [])) _
                              refine XS.aload X137.here hx rfl (hb hby at_244) rfl rfl ?_
                              show Steps p.tables e below (T137.setTop (mkF m 246 #[.val (.int p0), .val (.int p1), .val (.int p2), .val (.int p3), .val (.int p4), .val (.ref ra), .val (.ref va), .val (.ref rb), .val (.int v102)] [(.ref rb)])) _
                              refine XS.iconst X137.here hx rfl (hb hby at_246) ?_
                              show Steps p.tables e below (T137.setTop (mkF m 247 #[.val (.int p0), .val (.int p1), .val (.int p2), .val (.int p3), .val (.int p4), .val (.ref ra), .val (.ref va), .val (.ref rb), .val (.int v102)] [(.int (3 : Int32)), (.ref rb)])) _
                              exact Steps.refl _)
                          obtain ⟨v145, hv145, hM⟩ := Option.bind_eq_some_iff.mp hM
                          have q146 : Steps p.tables e below (s₁.setTop (entryFrame m #[(.int p0), (.int p1), (.int p2), (.int p3), (.int p4)] maxLocals)) (T137.setTop (mkF m 248 #[.val (.int p0), .val (.int p1), .val (.int p2), .val (.int p3), .val (.int p4), .val (.ref ra), .val (.ref va), .val (.ref rb), .val (.int v102)] [(.double v145)])) := q144.trans (Own.ldDO X137 hx hZ e137 Jr hv145 (g := (mkF m 247 #[.val (.int p0), .val (.int p1), .val (.int p2), .val (.int p3), .val (.int p4), .val (.ref ra), .val (.ref va), .val (.ref rb), .val (.int v102)] [(.int (3 : Int32)), (.ref rb)])) rfl rfl (hb hby at_247) _ (Steps.refl _))
                          have q147 : Steps p.tables e below (s₁.setTop (entryFrame m #[(.int p0), (.int p1), (.int p2), (.int p3), (.int p4)] maxLocals)) (T137.setTop (mkF m 253 #[.val (.int p0), .val (.int p1), .val (.int p2), .val (.int p3), .val (.int p4), .val (.ref ra), .val (.ref va), .val (.ref rb), .val (.int v102)] [(.int (3 : Int32)), (.ref ra), (.ref va), (.double v145)])) := q146.trans (by
                              show Steps p.tables e below (T137.setTop (mkF m 248 #[.val (.int p0), .val (.int p1), .val (.int p2), .val (.int p3), .val (.int p4), .val (.ref ra), .val (.ref va), .val (.ref rb), .val (.int v102)] [(.double v145)])) _
                              refine XS.aload X137.here hx rfl (hb hby at_248) rfl rfl ?_
                              show Steps p.tables e below (T137.setTop (mkF m 250 #[.val (.int p0), .val (.int p1), .val (.int p2), .val (.int p3), .val (.int p4), .val (.ref ra), .val (.ref va), .val (.ref rb), .val (.int v102)] [(.ref va), (.double v145)])) _
                              refine XS.aload X137.here hx rfl (hb hby at_250) rfl rfl ?_
                              show Steps p.tables e below (T137.setTop (mkF m 252 #[.val (.int p0), .val (.int p1), .val (.int p2), .val (.int p3), .val (.int p4), .val (.ref ra), .val (.ref va), .val (.ref rb), .val (.int v102)] [(.ref ra), (.ref va), (.double v145)])) _
                              refine XS.iconst X137.here hx rfl (hb hby at_252) ?_
                              show Steps p.tables e below (T137.setTop (mkF m 253 #[.val (.int p0), .val (.int p1), .val (.int p2), .val (.int p3), .val (.int p4), .val (.ref ra), .val (.ref va), .val (.ref rb), .val (.int v102)] [(.int (3 : Int32)), (.ref ra), (.ref va), (.double v145)])) _
                              exact Steps.refl _)
                          obtain ⟨r148, hr148, hM⟩ := Option.bind_eq_some_iff.mp hM
                          obtain ⟨_, _, ⟨T149, L149, k149, n149⟩, -, X149, ⟨Lc149, hQ149, l149, y149, z149⟩, st149⟩ := Jvm.LawKit.callS X137 hx (y := (⟨"com/example/pareto_workflow_scheduler/paretoworkflowscheduler/algorithm/ReferencePointsAlikePinLaw", "first", "([II)I"⟩ : MethodName)) hown (mvT hZ (hw _ (List.mem_of_getElem? (i := 7) rfl))) (mvT hZ (hw _ (List.mem_of_getElem? (i := 8) rfl))) (mvT hZ (hw _ (List.mem_of_getElem? (i := 9) rfl))) (mvT hZ (hw _ (List.mem_of_getElem? (i := 10) rfl))) (by decide) (backOf (W := 3) (rmF l Z a0 hw [] ra (3 : Int32) y18 r148 T43.heap n0 Z43 Ira_43 hr148) hZ (hw _ (List.mem_of_getElem? (i := 10) rfl)) (hw _ (List.mem_of_getElem? (i := 9) rfl)) (by decide) (by decide)) (g := (mkF m 253 #[.val (.int p0), .val (.int p1), .val (.int p2), .val (.int p3), .val (.int p4), .val (.ref ra), .val (.ref va), .val (.ref rb), .val (.int v102)] [(.int (3 : Int32)), (.ref ra), (.ref va), (.double v145)])) rfl (by rw [hml]; rfl) (argsL := [(.ref ra), (.int (3 : Int32))]) (rest := [(.ref va), (.double v145)]) (lenOf pd_1 rfl) rfl (by show 2 * 0 + _ ≤ _; exact Nat.le_of_eq rfl) (hb hby at_253) (fun _ _ => ⟨rfl, e137, (by decide : 5 + 0 ≤ _), (by decide : 20 + 0 ≤ _)⟩)
                          dsimp only [Pt.U, Pt.locs, Pt.cells, Pt.slots] at X149 l149 y149 z149 st149 hQ149
                          subst l149 y149 z149
                          obtain ⟨rfl, N149q, e149⟩ := hQ149
                          have N149 := Fr.app N137 N149q
                          have q150 : Steps p.tables e below (s₁.setTop (entryFrame m #[(.int p0), (.int p1), (.int p2), (.int p3), (.int p4)] maxLocals)) (T149.setTop (mkF m 256 #[.val (.int p0), .val (.int p1), .val (.int p2), .val (.int p3), .val (.int p4), .val (.ref ra), .val (.ref va), .val (.ref rb), .val (.int v102)] [(.int r148), (.ref va), (.double v145)])) := q147.trans (st149 _ (Steps.refl _))
                          obtain ⟨v151, hv151, hM⟩ := Option.bind_eq_some_iff.mp hM
                          have q152 : Steps p.tables e below (s₁.setTop (entryFrame m #[(.int p0), (.int p1), (.int p2), (.int p3), (.int p4)] maxLocals)) (T149.setTop (mkF m 257 #[.val (.int p0), .val (.int p1), .val (.int p2), .val (.int p3), .val (.int p4), .val (.ref ra), .val (.ref va), .val (.ref rb), .val (.int v102)] [(.double v151), (.double v145)])) := q150.trans (Own.ldDO X149 hx hZ e149 Iva_43 hv151 (g := (mkF m 256 #[.val (.int p0), .val (.int p1), .val (.int p2), .val (.int p3), .val (.int p4), .val (.ref ra), .val (.ref va), .val (.ref rb), .val (.int v102)] [(.int r148), (.ref va), (.double v145)])) rfl rfl (hb hby at_256) _ (Steps.refl _))
                          have q153 : Steps p.tables e below (s₁.setTop (entryFrame m #[(.int p0), (.int p1), (.int p2), (.int p3), (.int p4)] maxLocals)) (T149.setTop (mkF m 258 #[.val (.int p0), .val (.int p1), .val (.int p2), .val (.int p3), .val (.int p4), .val (.ref ra), .val (.ref va), .val (.ref rb), .val (.int v102)] [(.int (cmpValue (FP.dcmp v145 v151) .l))])) := q152.trans (by
                              show Steps p.tables e below (T149.setTop (mkF m 257 #[.val (.int p0), .val (.int p1), .val (.int p2), .val (.int p3), .val (.int p4), .val (.ref ra), .val (.ref va), .val (.ref rb), .val (.int v102)] [(.double v151), (.double v145)])) _
                              refine XS.dcmpS X149.here hx rfl (hb hby at_257) rfl rfl ?_
                              show Steps p.tables e below (T149.setTop (mkF m 258 #[.val (.int p0), .val (.int p1), .val (.int p2), .val (.int p3), .val (.int p4), .val (.ref ra), .val (.ref va), .val (.ref rb), .val (.int v102)] [(.int (cmpValue (FP.dcmp v145 v151) .l))])) _
                              exact Steps.refl _)
                          by_cases hc154 : (cmpValue (FP.dcmp v145 v151) .l) = (0 : Int32)
                          · rw [if_pos hc154] at hM
                            have q155 : Steps p.tables e below (s₁.setTop (entryFrame m #[(.int p0), (.int p1), (.int p2), (.int p3), (.int p4)] maxLocals)) (T149.setTop (mkF m 261 #[.val (.int p0), .val (.int p1), .val (.int p2), .val (.int p3), .val (.int p4), .val (.ref ra), .val (.ref va), .val (.ref rb), .val (.int v102)] [])) := q153.trans (by
                                show Steps p.tables e below (T149.setTop (mkF m 258 #[.val (.int p0), .val (.int p1), .val (.int p2), .val (.int p3), .val (.int p4), .val (.ref ra), .val (.ref va), .val (.ref rb), .val (.int v102)] [(.int (cmpValue (FP.dcmp v145 v151) .l))])) _
                                refine XS.ifNo X149.here hx rfl (hb hby at_258) rfl ((if0 _ _).trans (teq hc154).2) ?_
                                show Steps p.tables e below (T149.setTop (mkF m 261 #[.val (.int p0), .val (.int p1), .val (.int p2), .val (.int p3), .val (.int p4), .val (.ref ra), .val (.ref va), .val (.ref rb), .val (.int v102)] [])) _
                                exact Steps.refl _)
                            have q156 : Steps p.tables e below (s₁.setTop (entryFrame m #[(.int p0), (.int p1), (.int p2), (.int p3), (.int p4)] maxLocals)) (T149.setTop (mkF m 266 #[.val (.int p0), .val (.int p1), .val (.int p2), .val (.int p3), .val (.int p4), .val (.ref ra), .val (.ref va), .val (.ref rb), .val (.int v102)] [(.int (1 : Int32))])) := q155.trans (by
                                show Steps p.tables e below (T149.setTop (mkF m 261 #[.val (.int p0), .val (.int p1), .val (.int p2), .val (.int p3), .val (.int p4), .val (.ref ra), .val (.ref va), .val (.ref rb), .val (.int v102)] [])) _
                                refine XS.iconst X149.here hx rfl (hb hby at_261) ?_
                                show Steps p.tables e below (T149.setTop (mkF m 262 #[.val (.int p0), .val (.int p1), .val (.int p2), .val (.int p3), .val (.int p4), .val (.ref ra), .val (.ref va), .val (.ref rb), .val (.int v102)] [(.int (1 : Int32))])) _
                                refine XS.goto X149.here hx rfl (pc0 := 262) (pc' := 266) rfl (hb hby at_262) (by decide) (by decide) ?_
                                show Steps p.tables e below (T149.setTop (mkF m 266 #[.val (.int p0), .val (.int p1), .val (.int p2), .val (.int p3), .val (.int p4), .val (.ref ra), .val (.ref va), .val (.ref rb), .val (.int v102)] [(.int (1 : Int32))])) _
                                exact Steps.refl _)
                            obtain rfl := Option.some.inj hM
                            obtain ⟨fs, hr, hrun, hended, hW, hsame⟩ := X149.leave (v := some (.int (1 : Int32))) (fun h => by rw [Bd.returns] at h; cases h)
                            refine ⟨_, _, q156.trans ?_, hrun, hended, _, _, rfl, ?_, ⟨_, rfl⟩, hW, hsame.mono (by decide) (by decide)⟩
                            · exact retN X149 hx (t := .boolean) Bd.returns (by simp) (hb hby at_266) hr
                            · show Q_rm0 Z p0 p1 p2 p3 p4 _ h0 n0 _ T149.heap _
                              rw [e149]
                              exact ⟨rfl, N149⟩
                          · rw [if_neg hc154] at hM
                            have q157 : Steps p.tables e below (s₁.setTop (entryFrame m #[(.int p0), (.int p1), (.int p2), (.int p3), (.int p4)] maxLocals)) (T149.setTop (mkF m 265 #[.val (.int p0), .val (.int p1), .val (.int p2), .val (.int p3), .val (.int p4), .val (.ref ra), .val (.ref va), .val (.ref rb), .val (.int v102)] [])) := q153.trans (by
                                show Steps p.tables e below (T149.setTop (mkF m 258 #[.val (.int p0), .val (.int p1), .val (.int p2), .val (.int p3), .val (.int p4), .val (.ref ra), .val (.ref va), .val (.ref rb), .val (.int v102)] [(.int (cmpValue (FP.dcmp v145 v151) .l))])) _
                                refine XS.ifYes X149.here hx rfl (pc0 := 258) (pc' := 265) rfl (hb hby at_258) rfl ((if0 _ _).trans (feq hc154).2) (by decide) (by decide) ?_
                                show Steps p.tables e below (T149.setTop (mkF m 265 #[.val (.int p0), .val (.int p1), .val (.int p2), .val (.int p3), .val (.int p4), .val (.ref ra), .val (.ref va), .val (.ref rb), .val (.int v102)] [])) _
                                exact Steps.refl _)
                            cases hM
                        · rw [if_neg hc142] at hM
                          have q158 : Steps p.tables e below (s₁.setTop (entryFrame m #[(.int p0), (.int p1), (.int p2), (.int p3), (.int p4)] maxLocals)) (T137.setTop (mkF m 265 #[.val (.int p0), .val (.int p1), .val (.int p2), .val (.int p3), .val (.int p4), .val (.ref ra), .val (.ref va), .val (.ref rb), .val (.int v102)] [])) := q141.trans (by
                              show Steps p.tables e below (T137.setTop (mkF m 241 #[.val (.int p0), .val (.int p1), .val (.int p2), .val (.int p3), .val (.int p4), .val (.ref ra), .val (.ref va), .val (.ref rb), .val (.int v102)] [(.int (cmpValue (FP.dcmp v133 v139) .l))])) _
                              refine XS.ifYes X137.here hx rfl (pc0 := 241) (pc' := 265) rfl (hb hby at_241) rfl ((if0 _ _).trans (feq hc142).2) (by decide) (by decide) ?_
                              show Steps p.tables e below (T137.setTop (mkF m 265 #[.val (.int p0), .val (.int p1), .val (.int p2), .val (.int p3), .val (.int p4), .val (.ref ra), .val (.ref va), .val (.ref rb), .val (.int v102)] [])) _
                              exact Steps.refl _)
                          cases hM
                      · rw [if_neg hc130] at hM
                        have q159 : Steps p.tables e below (s₁.setTop (entryFrame m #[(.int p0), (.int p1), (.int p2), (.int p3), (.int p4)] maxLocals)) (T125.setTop (mkF m 265 #[.val (.int p0), .val (.int p1), .val (.int p2), .val (.int p3), .val (.int p4), .val (.ref ra), .val (.ref va), .val (.ref rb), .val (.int v102)] [])) := q129.trans (by
                            show Steps p.tables e below (T125.setTop (mkF m 224 #[.val (.int p0), .val (.int p1), .val (.int p2), .val (.int p3), .val (.int p4), .val (.ref ra), .val (.ref va), .val (.ref rb), .val (.int v102)] [(.int (cmpValue (FP.dcmp v121 v127) .l))])) _
                            refine XS.ifYes X125.here hx rfl (pc0 := 224) (pc' := 265) rfl (hb hby at_224) rfl ((if0 _ _).trans (feq hc130).2) (by decide) (by decide) ?_
                            show Steps p.tables e below (T125.setTop (mkF m 265 #[.val (.int p0), .val (.int p1), .val (.int p2), .val (.int p3), .val (.int p4), .val (.ref ra), .val (.ref va), .val (.ref rb), .val (.int v102)] [])) _
                            exact Steps.refl _)
                        cases hM
                    · rw [if_neg hc118] at hM
                      have q160 : Steps p.tables e below (s₁.setTop (entryFrame m #[(.int p0), (.int p1), (.int p2), (.int p3), (.int p4)] maxLocals)) (T113.setTop (mkF m 265 #[.val (.int p0), .val (.int p1), .val (.int p2), .val (.int p3), .val (.int p4), .val (.ref ra), .val (.ref va), .val (.ref rb), .val (.int v102)] [])) := q117.trans (by
                          show Steps p.tables e below (T113.setTop (mkF m 207 #[.val (.int p0), .val (.int p1), .val (.int p2), .val (.int p3), .val (.int p4), .val (.ref ra), .val (.ref va), .val (.ref rb), .val (.int v102)] [(.int (cmpValue (FP.dcmp v109 v115) .l))])) _
                          refine XS.ifYes X113.here hx rfl (pc0 := 207) (pc' := 265) rfl (hb hby at_207) rfl ((if0 _ _).trans (feq hc118).2) (by decide) (by decide) ?_
                          show Steps p.tables e below (T113.setTop (mkF m 265 #[.val (.int p0), .val (.int p1), .val (.int p2), .val (.int p3), .val (.int p4), .val (.ref ra), .val (.ref va), .val (.ref rb), .val (.int v102)] [])) _
                          exact Steps.refl _)
                      cases hM
                · rw [if_neg hc95] at hM
                  have q161 : Steps p.tables e below (s₁.setTop (entryFrame m #[(.int p0), (.int p1), (.int p2), (.int p3), (.int p4)] maxLocals)) (T43.setTop (mkF m 185 #[.val (.int p0), .val (.int p1), .val (.int p2), .val (.int p3), .val (.int p4), .val (.ref ra), .val (.ref va), .val (.ref rb), .unset] [])) := q93.trans (by
                      show Steps p.tables e below (T43.setTop (mkF m 165 #[.val (.int p0), .val (.int p1), .val (.int p2), .val (.int p3), .val (.int p4), .val (.ref ra), .val (.ref va), .val (.ref rb), .unset] [(.int (((p0.toUInt32 >>> ((4 : Int32) &&& 31).toUInt32).toInt32) &&& (3 : Int32))), (.int v91)])) _
                      refine XS.icmpYes X43.here hx rfl (pc0 := 165) (pc' := 185) rfl (hb hby at_165) rfl (feq hc95).2 (by decide) (by decide) ?_
                      show Steps p.tables e below (T43.setTop (mkF m 185 #[.val (.int p0), .val (.int p1), .val (.int p2), .val (.int p3), .val (.int p4), .val (.ref ra), .val (.ref va), .val (.ref rb), .unset] [])) _
                      exact Steps.refl _)
                  cases hM
              · rw [if_neg hc88] at hM
                have q162 : Steps p.tables e below (s₁.setTop (entryFrame m #[(.int p0), (.int p1), (.int p2), (.int p3), (.int p4)] maxLocals)) (T43.setTop (mkF m 185 #[.val (.int p0), .val (.int p1), .val (.int p2), .val (.int p3), .val (.int p4), .val (.ref ra), .val (.ref va), .val (.ref rb), .unset] [])) := q86.trans (by
                    show Steps p.tables e below (T43.setTop (mkF m 153 #[.val (.int p0), .val (.int p1), .val (.int p2), .val (.int p3), .val (.int p4), .val (.ref ra), .val (.ref va), .val (.ref rb), .unset] [(.int (((p0.toUInt32 >>> ((2 : Int32) &&& 31).toUInt32).toInt32) &&& (3 : Int32))), (.int v84)])) _
                    refine XS.icmpYes X43.here hx rfl (pc0 := 153) (pc' := 185) rfl (hb hby at_153) rfl (feq hc88).2 (by decide) (by decide) ?_
                    show Steps p.tables e below (T43.setTop (mkF m 185 #[.val (.int p0), .val (.int p1), .val (.int p2), .val (.int p3), .val (.int p4), .val (.ref ra), .val (.ref va), .val (.ref rb), .unset] [])) _
                    exact Steps.refl _)
                cases hM
            · rw [if_neg hc81] at hM
              have q163 : Steps p.tables e below (s₁.setTop (entryFrame m #[(.int p0), (.int p1), (.int p2), (.int p3), (.int p4)] maxLocals)) (T43.setTop (mkF m 185 #[.val (.int p0), .val (.int p1), .val (.int p2), .val (.int p3), .val (.int p4), .val (.ref ra), .val (.ref va), .val (.ref rb), .unset] [])) := q79.trans (by
                  show Steps p.tables e below (T43.setTop (mkF m 141 #[.val (.int p0), .val (.int p1), .val (.int p2), .val (.int p3), .val (.int p4), .val (.ref ra), .val (.ref va), .val (.ref rb), .unset] [(.int (p0 &&& (3 : Int32))), (.int v77)])) _
                  refine XS.icmpYes X43.here hx rfl (pc0 := 141) (pc' := 185) rfl (hb hby at_141) rfl (feq hc81).2 (by decide) (by decide) ?_
                  show Steps p.tables e below (T43.setTop (mkF m 185 #[.val (.int p0), .val (.int p1), .val (.int p2), .val (.int p3), .val (.int p4), .val (.ref ra), .val (.ref va), .val (.ref rb), .unset] [])) _
                  exact Steps.refl _)
              cases hM
          · rw [if_neg hc74] at hM
            have q164 : Steps p.tables e below (s₁.setTop (entryFrame m #[(.int p0), (.int p1), (.int p2), (.int p3), (.int p4)] maxLocals)) (T43.setTop (mkF m 185 #[.val (.int p0), .val (.int p1), .val (.int p2), .val (.int p3), .val (.int p4), .val (.ref ra), .val (.ref va), .val (.ref rb), .unset] [])) := q72.trans (by
                show Steps p.tables e below (T43.setTop (mkF m 131 #[.val (.int p0), .val (.int p1), .val (.int p2), .val (.int p3), .val (.int p4), .val (.ref ra), .val (.ref va), .val (.ref rb), .unset] [(.int (cmpValue (FP.dcmp v70 (FP.i2d p4)) .l))])) _
                refine XS.ifYes X43.here hx rfl (pc0 := 131) (pc' := 185) rfl (hb hby at_131) rfl ((if0 _ _).trans (feq hc74).2) (by decide) (by decide) ?_
                show Steps p.tables e below (T43.setTop (mkF m 185 #[.val (.int p0), .val (.int p1), .val (.int p2), .val (.int p3), .val (.int p4), .val (.ref ra), .val (.ref va), .val (.ref rb), .unset] [])) _
                exact Steps.refl _)
            cases hM
        · rw [if_neg hc67] at hM
          have q165 : Steps p.tables e below (s₁.setTop (entryFrame m #[(.int p0), (.int p1), (.int p2), (.int p3), (.int p4)] maxLocals)) (T43.setTop (mkF m 185 #[.val (.int p0), .val (.int p1), .val (.int p2), .val (.int p3), .val (.int p4), .val (.ref ra), .val (.ref va), .val (.ref rb), .unset] [])) := q65.trans (by
              show Steps p.tables e below (T43.setTop (mkF m 120 #[.val (.int p0), .val (.int p1), .val (.int p2), .val (.int p3), .val (.int p4), .val (.ref ra), .val (.ref va), .val (.ref rb), .unset] [(.int (cmpValue (FP.dcmp v63 (FP.i2d p3)) .l))])) _
              refine XS.ifYes X43.here hx rfl (pc0 := 120) (pc' := 185) rfl (hb hby at_120) rfl ((if0 _ _).trans (feq hc67).2) (by decide) (by decide) ?_
              show Steps p.tables e below (T43.setTop (mkF m 185 #[.val (.int p0), .val (.int p1), .val (.int p2), .val (.int p3), .val (.int p4), .val (.ref ra), .val (.ref va), .val (.ref rb), .unset] [])) _
              exact Steps.refl _)
          cases hM
      · rw [if_neg hc60] at hM
        have q166 : Steps p.tables e below (s₁.setTop (entryFrame m #[(.int p0), (.int p1), (.int p2), (.int p3), (.int p4)] maxLocals)) (T43.setTop (mkF m 185 #[.val (.int p0), .val (.int p1), .val (.int p2), .val (.int p3), .val (.int p4), .val (.ref ra), .val (.ref va), .val (.ref rb), .unset] [])) := q58.trans (by
            show Steps p.tables e below (T43.setTop (mkF m 110 #[.val (.int p0), .val (.int p1), .val (.int p2), .val (.int p3), .val (.int p4), .val (.ref ra), .val (.ref va), .val (.ref rb), .unset] [(.int (cmpValue (FP.dcmp v56 (FP.i2d p2)) .l))])) _
            refine XS.ifYes X43.here hx rfl (pc0 := 110) (pc' := 185) rfl (hb hby at_110) rfl ((if0 _ _).trans (feq hc60).2) (by decide) (by decide) ?_
            show Steps p.tables e below (T43.setTop (mkF m 185 #[.val (.int p0), .val (.int p1), .val (.int p2), .val (.int p3), .val (.int p4), .val (.ref ra), .val (.ref va), .val (.ref rb), .unset] [])) _
            exact Steps.refl _)
        cases hM
    · rw [if_neg hc53] at hM
      have q167 : Steps p.tables e below (s₁.setTop (entryFrame m #[(.int p0), (.int p1), (.int p2), (.int p3), (.int p4)] maxLocals)) (T43.setTop (mkF m 185 #[.val (.int p0), .val (.int p1), .val (.int p2), .val (.int p3), .val (.int p4), .val (.ref ra), .val (.ref va), .val (.ref rb), .unset] [])) := q51.trans (by
          show Steps p.tables e below (T43.setTop (mkF m 100 #[.val (.int p0), .val (.int p1), .val (.int p2), .val (.int p3), .val (.int p4), .val (.ref ra), .val (.ref va), .val (.ref rb), .unset] [(.int (cmpValue (FP.dcmp v49 (FP.i2d p1)) .l))])) _
          refine XS.ifYes X43.here hx rfl (pc0 := 100) (pc' := 185) rfl (hb hby at_100) rfl ((if0 _ _).trans (feq hc53).2) (by decide) (by decide) ?_
          show Steps p.tables e below (T43.setTop (mkF m 185 #[.val (.int p0), .val (.int p1), .val (.int p2), .val (.int p3), .val (.int p4), .val (.ref ra), .val (.ref va), .val (.ref rb), .unset] [])) _
          exact Steps.refl _)
      cases hM
  · rw [if_neg hc46] at hM
    have q168 : Steps p.tables e below (s₁.setTop (entryFrame m #[(.int p0), (.int p1), (.int p2), (.int p3), (.int p4)] maxLocals)) (T43.setTop (mkF m 91 #[.val (.int p0), .val (.int p1), .val (.int p2), .val (.int p3), .val (.int p4), .val (.ref ra), .val (.ref va), .val (.ref rb), .unset] [])) := q45.trans (by
        show Steps p.tables e below (T43.setTop (mkF m 88 #[.val (.int p0), .val (.int p1), .val (.int p2), .val (.int p3), .val (.int p4), .val (.ref ra), .val (.ref va), .val (.ref rb), .unset] [(.int (4 : Int32)), (.int (Own.lnD r42))])) _
        refine XS.icmpNo X43.here hx rfl (hb hby at_88) rfl (feq hc46).1 ?_
        show Steps p.tables e below (T43.setTop (mkF m 91 #[.val (.int p0), .val (.int p1), .val (.int p2), .val (.int p3), .val (.int p4), .val (.ref ra), .val (.ref va), .val (.ref rb), .unset] [])) _
        exact Steps.refl _)
    cases hM

theorem own_rdD_map (f : UInt64 → UInt64) (xs : List UInt64) (j : Int32) : Own.rdD (xs.map f) j = (Own.rdD xs j).map f := by
  unfold Own.rdD
  rw [List.length_map]
  by_cases h : 0 ≤ j.toInt ∧ j.toInt < (xs.length : Int)
  · rw [if_pos h, if_pos h]
    have hi : j.toNatClampNeg < xs.length := by simp only [Int32.toNatClampNeg]; omega
    simp [List.getD_eq_getElem?_getD, hi]
  · rw [if_neg h, if_neg h]; rfl
theorem own_wtD_map (f : UInt64 → UInt64) (xs : List UInt64) (j : Int32) (x : UInt64) : Own.wtD (xs.map f) j (f x) = (Own.wtD xs j x).map (List.map f) := by
  unfold Own.wtD
  rw [List.length_map]
  by_cases h : 0 ≤ j.toInt ∧ j.toInt < (xs.length : Int)
  · rw [if_pos h, if_pos h]; simp [List.map_set]
  · rw [if_neg h, if_neg h]; rfl
theorem own_lpA (f : UInt64 → UInt64) (xr : List Int32) (xv : List UInt64) (k : Nat) : ∀ (i : Int32) (xa : List UInt64) (xb : List Int32) (xc : List UInt64),
    M_lpA k xr (xv.map f) i (xa.map f) xb (xc.map f) = (M_lpA k xr xv i xa xb xc).map fun o => (o.1, o.2.1.map f, o.2.2.1, o.2.2.2.map f) := by
  induction k with
  | zero => intro i xa xb xc; rfl
  | succ k ih =>
    intro i xa xb xc
    rw [M_lpA_s, M_lpA_s]
    by_cases h : i < Own.ln xr
    · rw [if_pos h, if_pos h]
      cases Own.rd xr i with
      | none => rfl
      | some v =>
        simp only [Option.bind_some]
        cases Own.rd xb v with
        | none => rfl
        | some v8 =>
          simp only [Option.bind_some]
          by_cases h8 : v8 = 0
          · rw [if_pos h8, if_pos h8]
            cases Own.wt xb v (nar .boolean 1) with
            | none => rfl
            | some y17 =>
              simp only [Option.bind_some, own_rdD_map]
              cases Own.rdD xv i with
              | none => rfl
              | some v24 =>
                simp only [Option.map_some, Option.bind_some, own_wtD_map]
                cases Own.wtD xa v v24 with
                | none => rfl
                | some y26 =>
                  simp only [Option.map_some, Option.bind_some, own_rdD_map]
                  cases Own.rdD y26 v with
                  | none => rfl
                  | some v32 =>
                    simp only [Option.map_some, Option.bind_some, own_wtD_map]
                    cases Own.wtD xc i v32 with
                    | none => rfl
                    | some y34 =>
                      simp only [Option.map_some, Option.bind_some]
                      exact ih _ _ _ _
          · rw [if_neg h8, if_neg h8]
            simp only [own_rdD_map]
            cases Own.rdD xa v with
            | none => rfl
            | some v42 =>
              simp only [Option.map_some, Option.bind_some, own_wtD_map]
              cases Own.wtD xc i v42 with
              | none => rfl
              | some y44 =>
                simp only [Option.map_some, Option.bind_some]
                exact ih _ _ _ _
    · rw [if_neg h, if_neg h]; rfl
theorem own_mkD (f : UInt64 → UInt64) (h0 : f 0 = 0) (cap : Nat) (n : Int32) {ys : List UInt64} (q : Own.mkD cap n = some ys) : ys.map f = ys := by
  rw [(Own.mkD_some q).2.2, List.map_replicate, h0]
theorem own_alike (f : UInt64 → UInt64) (h0 : f 0 = 0) (xr : List Int32) (xv : List UInt64) : M_alike xr (xv.map f) = (M_alike xr xv).map (List.map f) := by
  unfold M_alike
  cases hm : Own.mkD 4 (Own.ln xr) with
  | none => rfl
  | some ys =>
    rw [Option.bind_some, Option.bind_some]
    cases Own.mk 4 (Own.ln xr) with
    | none => rfl
    | some zs =>
      rw [Option.bind_some, Option.bind_some, Option.bind_some, Option.bind_some]
      have e := own_lpA f xr xv 8 0 ys zs ys
      rw [own_mkD f h0 _ _ hm] at e
      rw [e]
      cases M_lpA 8 xr xv 0 ys zs ys <;> rfl
/-- the doubles stand for the codes 1 to 4 -/
def own_f (d0 d1 d2 d3 : UInt64) (c : UInt64) : UInt64 := if c = 1 then d0 else if c = 2 then d1 else if c = 3 then d2 else if c = 4 then d3 else 0
def own_exp (r : List Int32) : Option (List UInt64) :=
  (M_first 0 r).bind fun a => (Own.rdD [1, 2, 3, 4] a).bind fun x => (M_first 1 r).bind fun b => (Own.rdD [1, 2, 3, 4] b).bind fun y => (M_first 2 r).bind fun c => (Own.rdD [1, 2, 3, 4] c).bind fun z => (M_first 3 r).bind fun d => (Own.rdD [1, 2, 3, 4] d).bind fun w => some [x, y, z, w]
set_option maxRecDepth 100000 in
theorem own_all : (([0, 1, 2, 3] : List Int32).all fun a => ([0, 1, 2, 3] : List Int32).all fun b => ([0, 1, 2, 3] : List Int32).all fun c => ([0, 1, 2, 3] : List Int32).all fun d =>
    (M_alike [a, b, c, d] [1, 2, 3, 4] == own_exp [a, b, c, d]) && ((own_exp [a, b, c, d]).any fun l => l.all fun x => ([1, 2, 3, 4] : List UInt64).contains x)) = true := by decide +kernel
theorem own_m4 (x : Int32) : (x &&& (3 : Int32)) ∈ ([0, 1, 2, 3] : List Int32) := by
  have h := Jvm.Kit.i32_mask x 3 (k := 2) (by decide) (by decide)
  simp only [List.mem_cons, List.not_mem_nil, or_false, ← Int32.toInt_inj, h, show (0 : Int32).toInt = 0 from rfl, show (1 : Int32).toInt = 1 from rfl, show (2 : Int32).toInt = 2 from rfl, show (3 : Int32).toInt = 3 from rfl]
  omega
theorem own_self (x : Int32) : cmpValue (FP.dcmp (FP.i2d x) (FP.i2d x)) .l = 0 := dcmpV_self (nn_w (i2d_w x)) .l
theorem own_law (p0 p1 p2 p3 p4 : Int32) : M_law p0 p1 p2 p3 p4 = some 1 := by
  have hr := own_all
  simp only [List.all_eq_true, Bool.and_eq_true] at hr
  obtain ⟨ha, hb⟩ := hr _ (own_m4 p0) _ (own_m4 ((p0.toUInt32 >>> ((2 : Int32) &&& 31).toUInt32).toInt32)) _ (own_m4 ((p0.toUInt32 >>> ((4 : Int32) &&& 31).toUInt32).toInt32)) _ (own_m4 ((p0.toUInt32 >>> ((6 : Int32) &&& 31).toUInt32).toInt32))
  have ha := eq_of_beq ha
  unfold M_law
  generalize (p0 &&& (3 : Int32)) = i0 at *
  generalize ((p0.toUInt32 >>> ((2 : Int32) &&& 31).toUInt32).toInt32 &&& (3 : Int32)) = i1 at *
  generalize ((p0.toUInt32 >>> ((4 : Int32) &&& 31).toUInt32).toInt32 &&& (3 : Int32)) = i2 at *
  generalize ((p0.toUInt32 >>> ((6 : Int32) &&& 31).toUInt32).toInt32 &&& (3 : Int32)) = i3 at *
  have s1 := own_self p1
  have s2 := own_self p2
  have s3 := own_self p3
  have s4 := own_self p4
  have sf : ∀ x, x ∈ ([1, 2, 3, 4] : List UInt64) → cmpValue (FP.dcmp (own_f (FP.i2d p1) (FP.i2d p2) (FP.i2d p3) (FP.i2d p4) x) (own_f (FP.i2d p1) (FP.i2d p2) (FP.i2d p3) (FP.i2d p4) x)) .l = 0 := by
    intro x hx
    simp only [List.mem_cons, List.not_mem_nil, or_false] at hx
    rcases hx with rfl | rfl | rfl | rfl
    · exact s1
    · exact s2
    · exact s3
    · exact s4
  generalize FP.i2d p1 = d0 at *
  generalize FP.i2d p2 = d1 at *
  generalize FP.i2d p3 = d2 at *
  generalize FP.i2d p4 = d3 at *
  have hmap : ([d0, d1, d2, d3] : List UInt64) = ([1, 2, 3, 4] : List UInt64).map (own_f d0 d1 d2 d3) := rfl
  have hal := own_alike (own_f d0 d1 d2 d3) rfl [i0, i1, i2, i3] [1, 2, 3, 4]
  rw [← hmap, ha] at hal
  have mk4 : Own.mk 4 (4 : Int32) = some [0, 0, 0, 0] := rfl
  have mkd : Own.mkD 4 (4 : Int32) = some [0, 0, 0, 0] := rfl
  have w0 : ∀ x y z w v : Int32, Own.wt [x, y, z, w] 0 v = some [v, y, z, w] := fun _ _ _ _ _ => rfl
  have w1 : ∀ x y z w v : Int32, Own.wt [x, y, z, w] 1 v = some [x, v, z, w] := fun _ _ _ _ _ => rfl
  have w2 : ∀ x y z w v : Int32, Own.wt [x, y, z, w] 2 v = some [x, y, v, w] := fun _ _ _ _ _ => rfl
  have w3 : ∀ x y z w v : Int32, Own.wt [x, y, z, w] 3 v = some [x, y, z, v] := fun _ _ _ _ _ => rfl
  have r0 : ∀ x y z w : Int32, Own.rd [x, y, z, w] 0 = some x := fun _ _ _ _ => rfl
  have r1 : ∀ x y z w : Int32, Own.rd [x, y, z, w] 1 = some y := fun _ _ _ _ => rfl
  have r2 : ∀ x y z w : Int32, Own.rd [x, y, z, w] 2 = some z := fun _ _ _ _ => rfl
  have r3 : ∀ x y z w : Int32, Own.rd [x, y, z, w] 3 = some w := fun _ _ _ _ => rfl
  have wd0 : ∀ x y z w v : UInt64, Own.wtD [x, y, z, w] 0 v = some [v, y, z, w] := fun _ _ _ _ _ => rfl
  have wd1 : ∀ x y z w v : UInt64, Own.wtD [x, y, z, w] 1 v = some [x, v, z, w] := fun _ _ _ _ _ => rfl
  have wd2 : ∀ x y z w v : UInt64, Own.wtD [x, y, z, w] 2 v = some [x, y, v, w] := fun _ _ _ _ _ => rfl
  have wd3 : ∀ x y z w v : UInt64, Own.wtD [x, y, z, w] 3 v = some [x, y, z, v] := fun _ _ _ _ _ => rfl
  have rd0 : ∀ x y z w : UInt64, Own.rdD [x, y, z, w] 0 = some x := fun _ _ _ _ => rfl
  have rd1 : ∀ x y z w : UInt64, Own.rdD [x, y, z, w] 1 = some y := fun _ _ _ _ => rfl
  have rd2 : ∀ x y z w : UInt64, Own.rdD [x, y, z, w] 2 = some z := fun _ _ _ _ => rfl
  have rd3 : ∀ x y z w : UInt64, Own.rdD [x, y, z, w] 3 = some w := fun _ _ _ _ => rfl
  simp only [mk4, mkd, w0, w1, w2, w3, wd0, wd1, wd2, wd3, Option.bind_some, hal]
  unfold own_exp at hb ⊢
  cases h0 : M_first 0 [i0, i1, i2, i3] with
  | none => rw [h0] at hb; cases hb
  | some a =>
    rw [h0] at hb
    simp only [Option.bind_some] at hb ⊢
    cases g0 : Own.rdD [1, 2, 3, 4] a with
    | none => rw [g0] at hb; cases hb
    | some x =>
      rw [g0] at hb
      simp only [Option.bind_some] at hb ⊢
      cases h1 : M_first 1 [i0, i1, i2, i3] with
      | none => rw [h1] at hb; cases hb
      | some b =>
        rw [h1] at hb
        simp only [Option.bind_some] at hb ⊢
        cases g1 : Own.rdD [1, 2, 3, 4] b with
        | none => rw [g1] at hb; cases hb
        | some y =>
          rw [g1] at hb
          simp only [Option.bind_some] at hb ⊢
          cases h2 : M_first 2 [i0, i1, i2, i3] with
          | none => rw [h2] at hb; cases hb
          | some c =>
            rw [h2] at hb
            simp only [Option.bind_some] at hb ⊢
            cases g2 : Own.rdD [1, 2, 3, 4] c with
            | none => rw [g2] at hb; cases hb
            | some z =>
              rw [g2] at hb
              simp only [Option.bind_some] at hb ⊢
              cases h3 : M_first 3 [i0, i1, i2, i3] with
              | none => rw [h3] at hb; cases hb
              | some d =>
                rw [h3] at hb
                simp only [Option.bind_some] at hb ⊢
                cases g3 : Own.rdD [1, 2, 3, 4] d with
                | none => rw [g3] at hb; cases hb
                | some w =>
                  rw [g3] at hb
                  simp only [Option.bind_some, Option.any_some, List.all_cons, List.all_nil, Bool.and_true, Bool.and_eq_true, List.contains_iff_mem] at hb ⊢
                  obtain ⟨q0, q1, q2, q3⟩ := hb
                  have e0 : Own.rdD [d0, d1, d2, d3] a = some (own_f d0 d1 d2 d3 x) := by rw [hmap, own_rdD_map, g0]; rfl
                  have e1 : Own.rdD [d0, d1, d2, d3] b = some (own_f d0 d1 d2 d3 y) := by rw [hmap, own_rdD_map, g1]; rfl
                  have e2 : Own.rdD [d0, d1, d2, d3] c = some (own_f d0 d1 d2 d3 z) := by rw [hmap, own_rdD_map, g2]; rfl
                  have e3 : Own.rdD [d0, d1, d2, d3] d = some (own_f d0 d1 d2 d3 w) := by rw [hmap, own_rdD_map, g3]; rfl
                  simp only [Option.map_some, Option.bind_some, List.map_cons, List.map_nil, rd0, rd1, rd2, rd3, r0, r1, r2, r3, show ∀ x y z w : UInt64, Own.lnD [x, y, z, w] = 4 from fun _ _ _ _ => rfl, if_true, s1, s2, s3, s4, h0, h1, h2, h3, e0, e1, e2, e3, sf x q0, sf y q1, sf z q2, sf w q3, show ((1 : Int32) = 0) = False from by decide, if_false]

set_option maxRecDepth 65536 in
set_option maxHeartbeats 40000000 in
theorem comes_1 {Post : Tables → Env → Array Value → State → Outcome → State → Prop} (hpost : ∀ tb e args s v u, (limb_1_1.after args s (.returned v) u = true ∧ limb_1_2.after args s (.returned v) u = true ∧ True) → FrameEnd s (.returned v) u (Jvm.fieldLocs frame_1_writes args s ++ Jvm.arrayLocs frame_1_arrays args s ++ Jvm.staticLocs frame_1_statics s) 24 128 → Post tb e args s (.returned v) u) :
    ArmFor flags0 classFile x code maxLocals ret World_1 tables_1 room_1 Calls_1 rest_1 Pre_1 Post := by
  intro l hfl _ _ p e ha hc hk s m args below hf hA hF happ hP
  obtain ⟨hcalls, hrest, hpre⟩ := hP
  obtain ⟨-, -, -, hnamed, -, -, -, hat⟩ := (Spec.applies_iff hf).mp happ
  obtain ⟨hg, hn⟩ := and_e (Cond.before_iff.mp (show (Jvm.Cond.and given_1 narrow_1).before args s = true from hpre))
  obtain ⟨hcount, hg0⟩ := and_e hg
  obtain ⟨ga0, hg1⟩ := and_e hg0
  obtain ⟨ga1, hg2⟩ := and_e hg1
  obtain ⟨ga2, hg3⟩ := and_e hg2
  obtain ⟨ga3, hg4⟩ := and_e hg3
  obtain ⟨w0, w1, w2, w3, w4, rfl⟩ : ∃ w0 w1 w2 w3 w4 : Value, args = #[w0, w1, w2, w3, w4] := by
    have hs : args.size = 5 := by simpa [Cond.value, given_1] using hcount
    obtain ⟨L⟩ := args
    match L, hs with
    | [w0, w1, w2, w3, w4], _ => exact ⟨w0, w1, w2, w3, w4, rfl⟩
  have hw := fun d (hd : d ∈ tables_1) => atoms_spec (ws := Jvm.Cond.code x code maxLocals ret :: tables_1) hat d (List.mem_cons_of_mem _ hd)
  have hfit : Fit s := fun {y c} hc i hi => by
    obtain ⟨ha, rfl⟩ := Array.getElem?_eq_some_iff.mp hc
    have q := List.all_eq_true.mp ((Array.all_eq_true_iff_forall_mem.mp hF) _ (Array.getElem_mem ha)) i (List.mem_range.mpr hi)
    simpa [Array.getElem?_eq_getElem hi] using q
  obtain ⟨i0, ei0⟩ := is_v ga0
  obtain rfl : w0 = (.int i0) := Option.some.inj ei0
  obtain ⟨i1, ei1⟩ := is_v ga1
  obtain rfl : w1 = (.int i1) := Option.some.inj ei1
  obtain ⟨i2, ei2⟩ := is_v ga2
  obtain rfl : w2 = (.int i2) := Option.some.inj ei2
  obtain ⟨i3, ei3⟩ := is_v ga3
  obtain rfl : w3 = (.int i3) := Option.some.inj ei3
  obtain ⟨i4, ei4⟩ := is_v hg4
  obtain rfl : w4 = (.int i4) := Option.some.inj ei4
  obtain ⟨n, o, h1, h2, h3, _, L, rfl, ⟨rfl, N⟩, hq⟩ := rm0 l s _ hw tables_1 i0 i1 i2 i3 i4 (1 : Int32) s.heap s.heap.size (Nat.le_refl _) (own_law i0 i1 i2 i3 i4) p e ha hc hk s m _ below hf ((Spec.applies_iff_loose hf).mp happ).1 ⟨rfl, State.Warmed39.refl s, rfl⟩ trivial
  refine ⟨n, _, h1, h2, h3, hpost _ _ _ _ _ _ ⟨Cond.after_iff.mpr rfl, Cond.after_iff.mpr (eq_i res_at (Term.int_eval (1)) rfl), trivial⟩ ⟨hq.1, hq.2.1, (hq.2.2.sift fun y hy => Or.inr (N y hy)).mono (by decide) (by decide)⟩⟩
theorem main_1_1 : Claimed_1_1 := comes_1 fun _ _ _ _ _ _ h hF => ⟨h.1, hF⟩
theorem main_1_2 : Claimed_1_2 := comes_1 fun _ _ _ _ _ _ h hF => ⟨h.2.1, hF⟩
end Jvm.Pilot.@@N@@
namespace Jvm.Pilot.@@N@@
open Jvm Jvm.ClassFile Sem Op Lib Jvm.Free Jvm.Stand Jvm.Pilot.@@N@@.Jvm.D
/-! MADE BY PROGRAM (witnessworld.py) out of the Statement's table words and the real class files: 12 classes; the members and pool entries that the words name. The judged class is class 1, her method 2. -/
namespace start1
open Jvm.ClassFile
def u (s : String) : CpInfo := .utf8 (stringToUtf16 s)
/-- a pool by its gaps: so many unusable entries, then the entry; so many at the end -/
def gap : Nat → List CpInfo → List CpInfo
  | 0, r => r
  | n + 1, r => .unusable :: gap n r
def poolList (es : List (Nat × CpInfo)) (last : Nat) : List CpInfo := es.foldr (fun e r => gap e.1 (e.2 :: r)) (gap last [])
def pool (es : List (Nat × CpInfo)) (last : Nat) : Array CpInfo := ⟨poolList es last⟩
def fileOf (pool : Array CpInfo) (this : Nat) (attrs : Array Attribute := #[]) (ms : Array MethodInfo := #[]) (fl : Nat := 33) (sup : Nat := 0) (ifs : Array Nat := #[]) (fds : Array FieldInfo := #[]) : ClassFile where
  minorVersion := 0
  majorVersion := 65
  constantPool := pool
  accessFlags := fl
  thisClass := this
  superClass := sup
  interfaces := ifs
  fields := fds
  methods := ms
  attributes := attrs
def plain (name : String) (sup : Option ClassId) : Class where
  name := name
  kind := .ordinary
  loader := none
  accessFlags := 33
  super := sup
  interfaces := #[]
  cf := none
  fields := #[]
  methods := #[]
  instanceTypes := #[]
  staticTypes := #[]
  resolved := #[]
  callSites := []
  init := .initialized
  statics := none
  mirror := none

def pool0 : Array CpInfo := pool [(5, u "<init>"), (0, u "()V"), (1, .class_ 10), (1, u "java/lang/Object")] 113

def k0m0 : Method := { name := "<init>", desc := "()V", sig := { parameters := [], returnType := none }, accessFlags := 1, code := none }
/-- java/lang/Object -/
def k0 : Class := { plain "java/lang/Object" none with
  accessFlags := 33
  interfaces := #[]
  cf := some (fileOf pool0 8 #[] #[{ accessFlags := 1, nameIndex := 5, descriptorIndex := 6, attributes := #[] }] 33 0 #[] #[])
  fields := #[]
  methods := #[k0m0]
  instanceTypes := #[]
  staticTypes := #[]
  resolved := Array.replicate 124 none
  statics := none }

def pool1 : Array CpInfo := pool [(2, .class_ 4), (1, u "java/lang/Object"), (0, u "<init>"), (0, u "()V"), (0, .methodref 8 9), (0, .class_ 10), (0, .nameAndType 11 12), (0, u "com/example/pareto_workflow_scheduler/paretoworkflowscheduler/algorithm/ReferencePoints"), (0, u "alike"), (0, u "([I[D)[D"), (0, .methodref 14 15), (0, .class_ 16), (0, .nameAndType 17 18), (0, u "com/example/pareto_workflow_scheduler/paretoworkflowscheduler/algorithm/ReferencePointsAlikePinLaw"), (0, u "first"), (0, u "([II)I"), (3, u "law"), (0, u "(IIIII)Z")] 6

def k1m0 : Method := { name := "<init>", desc := "()V", sig := { parameters := [], returnType := none }, accessFlags := 1, code := none }
def k1c1 : Code := { maxStack := 3, maxLocals := 2, code := method_2_code, exceptionTable := #[], attributes := #[] }
def k1m1 : Method := { name := "first", desc := "([II)I", sig := { parameters := [(.array .int), .int], returnType := some .int }, accessFlags := 10, code := some k1c1 }
def k1c2 : Code := { maxStack := 5, maxLocals := 9, code := code, exceptionTable := #[], attributes := #[] }
def k1m2 : Method := { name := "law", desc := "(IIIII)Z", sig := { parameters := [.int, .int, .int, .int, .int], returnType := some .boolean }, accessFlags := 9, code := some k1c2 }
/-- com/example/pareto_workflow_scheduler/paretoworkflowscheduler/algorithm/ReferencePointsAlikePinLaw -/
def k1 : Class := { plain "com/example/pareto_workflow_scheduler/paretoworkflowscheduler/algorithm/ReferencePointsAlikePinLaw" (some 0) with
  accessFlags := 49
  interfaces := #[]
  cf := some (fileOf pool1 14 #[] #[{ accessFlags := 1, nameIndex := 5, descriptorIndex := 6, attributes := #[] }, { accessFlags := 10, nameIndex := 17, descriptorIndex := 18, attributes := #[] }, { accessFlags := 9, nameIndex := 22, descriptorIndex := 23, attributes := #[] }] 49 2 #[] #[])
  fields := #[]
  methods := #[k1m0, k1m1, k1m2]
  instanceTypes := #[]
  staticTypes := #[]
  resolved := Array.replicate 30 none
  statics := none }

def pool2 : Array CpInfo := pool [(1, .class_ 2), (0, u "com/example/pareto_workflow_scheduler/paretoworkflowscheduler/algorithm/Survival"), (0, .class_ 4), (0, u "java/lang/Object"), (7, .class_ 13), (0, u "com/example/pareto_workflow_scheduler/paretoworkflowscheduler/algorithm/Survival$Generation")] 2

/-- com/example/pareto_workflow_scheduler/paretoworkflowscheduler/algorithm/Survival -/
def k2 : Class := { plain "com/example/pareto_workflow_scheduler/paretoworkflowscheduler/algorithm/Survival" (some 0) with
  accessFlags := 1536
  interfaces := #[]
  cf := some (fileOf pool2 1 #[.nestMembers #[12]] #[] 1536 3 #[] #[])
  fields := #[]
  methods := #[]
  instanceTypes := #[]
  staticTypes := #[]
  resolved := Array.replicate 16 none
  statics := none }

def pool3 : Array CpInfo := pool [(2, .class_ 4), (1, u "java/lang/Object"), (9, .class_ 16), (1, u "com/example/pareto_workflow_scheduler/paretoworkflowscheduler/algorithm/ReferencePoints"), (0, u "objectives"), (0, u "Ljava/util/List;"), (20, u "criteria"), (10, u "points"), (0, u "[[D"), (140, u "alike"), (0, u "([I[D)[D"), (36, .class_ 231), (0, u "com/example/pareto_workflow_scheduler/paretoworkflowscheduler/algorithm/Survival"), (0, u "OFF_AXIS_WEIGHT"), (0, u "D")] 69

def k3c0 : Code := { maxStack := 5, maxLocals := 6, code := prog_31_method_9_code, exceptionTable := #[], attributes := #[] }
def k3m0 : Method := { name := "alike", desc := "([I[D)[D", sig := { parameters := [(.array .int), (.array .double)], returnType := some (.array .double) }, accessFlags := 8, code := some k3c0 }
/-- com/example/pareto_workflow_scheduler/paretoworkflowscheduler/algorithm/ReferencePoints -/
def k3 : Class := { plain "com/example/pareto_workflow_scheduler/paretoworkflowscheduler/algorithm/ReferencePoints" (some 0) with
  accessFlags := 48
  interfaces := #[2]
  cf := some (fileOf pool3 14 #[] #[{ accessFlags := 8, nameIndex := 192, descriptorIndex := 193, attributes := #[] }] 48 2 #[230] #[{ accessFlags := 26, nameIndex := 232, descriptorIndex := 233, attributes := #[] }, { accessFlags := 18, nameIndex := 17, descriptorIndex := 18, attributes := #[] }, { accessFlags := 18, nameIndex := 39, descriptorIndex := 18, attributes := #[] }, { accessFlags := 18, nameIndex := 50, descriptorIndex := 51, attributes := #[] }])
  fields := #[{ name := "OFF_AXIS_WEIGHT", type := .double, accessFlags := 26, slot := 0, constantValue := 0 }, { name := "objectives", type := (.object "java/util/List"), accessFlags := 18, slot := 0, constantValue := 0 }, { name := "criteria", type := (.object "java/util/List"), accessFlags := 18, slot := 1, constantValue := 0 }, { name := "points", type := (.array (.array .double)), accessFlags := 18, slot := 2, constantValue := 0 }]
  methods := #[k3m0]
  instanceTypes := #[(.object "java/util/List"), (.object "java/util/List"), (.array (.array .double))]
  staticTypes := #[.double]
  resolved := Array.replicate 303 none
  statics := none }

def pool4 : Array CpInfo := pool [(1, u "java/lang/Cloneable"), (0, .class_ 1), (0, u "java/lang/Object"), (0, .class_ 3)] 3

/-- java/lang/Cloneable -/
def k4 : Class := { plain "java/lang/Cloneable" (some 0) with
  accessFlags := 1537
  interfaces := #[]
  cf := some (fileOf pool4 2 #[] #[] 1537 4 #[] #[])
  fields := #[]
  methods := #[]
  instanceTypes := #[]
  staticTypes := #[]
  resolved := Array.replicate 8 none
  statics := none }

def pool5 : Array CpInfo := pool [(1, u "java/io/Serializable"), (0, .class_ 1), (0, u "java/lang/Object"), (0, .class_ 3)] 3

/-- java/io/Serializable -/
def k5 : Class := { plain "java/io/Serializable" (some 0) with
  accessFlags := 1537
  interfaces := #[]
  cf := some (fileOf pool5 2 #[] #[] 1537 4 #[] #[])
  fields := #[]
  methods := #[]
  instanceTypes := #[]
  staticTypes := #[]
  resolved := Array.replicate 8 none
  statics := none }

/-- the primitive boolean -/
def k6 : Class := { plain "boolean" none with kind := .primitive 'Z', accessFlags := 0x411 }
/-- [Z -/
def k7 : Class := { plain "[Z" (some 0) with kind := .array 6 .boolean, interfaces := #[4, 5], accessFlags := 1041 }

/-- the primitive byte -/
def k8 : Class := { plain "byte" none with kind := .primitive 'B', accessFlags := 0x411 }
/-- [B -/
def k9 : Class := { plain "[B" (some 0) with kind := .array 8 .byte, interfaces := #[4, 5], accessFlags := 1041 }

/-- the primitive int -/
def k10 : Class := { plain "int" none with kind := .primitive 'I', accessFlags := 0x411 }
/-- [I -/
def k11 : Class := { plain "[I" (some 0) with kind := .array 10 .int, interfaces := #[4, 5], accessFlags := 1041 }

/-- the primitive double, [D -/
def k12 : Class := { plain "double" none with kind := .primitive 'D', accessFlags := 0x411 }
def k13 : Class := { plain "[D" (some 0) with kind := .array 12 .double, interfaces := #[4, 5], accessFlags := 1041 }

def heap : Heap := #[]
def classes : Array Class := #[k0, k1, k2, k3, k4, k5, k6, k7, k8, k9, k10, k11, k12, k13]
def interned : List (Array UInt16 × Addr) := []
def slotsUsed : Nat := 0
def theMethod : MethodId := ⟨1, 2⟩
def args0 : Array Value := #[.int 27, .int 90, .int 5, .int 3, .int 8]
def aboutOver (below : List Frame) : State where
  vm := { classes := classes, interned := interned.toArray }
  heap := heap
  slotsUsed := slotsUsed
  threads := #[{ frames := .invoking theMethod args0 :: below }]
def below0 : List Frame := [.native { method := ⟨0, 0⟩, args := #[] }]
def about1 : State := aboutOver below0
def p0 : Program := .bare "" "" ""
def e0 : Env := launch0.env 0 0 0
theorem w_frames : about1.frames = Frame.invoking theMethod args0 :: below0 := rfl
set_option maxRecDepth 65536 in
theorem w_args : argsFit about1.vm theMethod args0 = true := by decide +kernel
set_option maxRecDepth 65536 in
theorem w_heap : heapFits about1 = true := by decide +kernel
set_option maxRecDepth 65536 in
theorem w_runnable : about1.curStatus? = some .runnable := by decide +kernel
set_option maxRecDepth 65536 in
theorem w_alone : about1.alone = true := by decide +kernel
set_option maxRecDepth 65536 in
theorem w_named : about1.methodNamed? x = some theMethod := by decide +kernel
set_option maxRecDepth 65536 in
theorem w_hears : about1.hears theMethod below0 = true := by decide +kernel
set_option maxRecDepth 65536 in
theorem w_ripe : about1.ripe theMethod args0 below0 = true := by decide +kernel
theorem w_running : about1.status = .running := rfl
set_option maxRecDepth 65536 in
theorem w_room : about1.hasRoom e0.platform room_1 = true :=
  launch0.hasRoom_least _ room_1 (by decide +kernel) (by decide +kernel) (by decide +kernel) (by decide +kernel) (by decide +kernel) (by decide +kernel)
theorem allAtoms_all (ts : List Jvm.Cond) (a : Array Jvm.Value) (st : Jvm.State) : (allAtoms ts).before a st = ts.all (fun c => c.before a st) := by
  induction ts with
  | nil => rfl
  | cons c t ih =>
    show (Jvm.Cond.and c (allAtoms t)).before a st = _
    rw [Jvm.Cond.before_and, ih, List.all_cons]
def words1 : List Jvm.Cond := Jvm.Cond.code x code maxLocals ret :: tables_1
/-- a 'code' word, met by the world's own term for the bytes: nothing is compared byte by byte -/
theorem code_word {y : MethodName} {bytes : ByteArray} {mx : Nat} {rt : Option FieldType} {a : Array Value} {s : State} {m : MethodId} {meth : Method} {c : Code} (h1 : s.methodNamed? y = some m) (h2 : s.vm.method? m = some meth) (h3 : meth.code = some c) (h4 : c.code = bytes)
    (h5 : (c.maxLocals == mx && c.exceptionTable.isEmpty && decide (c.maxStack ≤ mostOperands) && decide (meth.sig.returnType = rt) && !meth.locks && decide (parseMethodDescriptor y.desc = some meth.sig)) = true) : (Jvm.Cond.code y bytes mx rt).before a s = true := by
  simp only [Bool.and_eq_true, beq_iff_eq, Bool.not_eq_true', decide_eq_true_eq] at h5
  obtain ⟨⟨⟨⟨⟨g1, g2⟩, g3⟩, g4⟩, g5⟩, g6⟩ := h5
  simp [Cond.before, Cond.holds, Cond.value, h1, h2, h3, h4, g1, g2, g3, g4, g5, g6]
def isCode : Jvm.Cond → Bool
  | .code _ _ _ _ => true
  | _ => false
theorem all_split {L : List Jvm.Cond} {P : Jvm.Cond → Bool} (h1 : L.all (fun c => isCode c || P c) = true) (h2 : ∀ c ∈ L.filter isCode, P c = true) : L.all P = true := by
  refine List.all_eq_true.mpr fun c hc => ?_
  have h := List.all_eq_true.mp h1 c hc
  rcases Bool.eq_false_or_eq_true (isCode c) with hi | hi
  · exact h2 c (List.mem_filter.mpr ⟨hc, hi⟩)
  · simpa [hi] using h
set_option maxRecDepth 65536 in
theorem w_c0 : (Jvm.Cond.code x code maxLocals ret).before args0 about1 = true := code_word (m := ⟨1, 2⟩) (meth := k1m2) (c := k1c2) (by decide +kernel) rfl rfl rfl (by decide +kernel)
set_option maxRecDepth 65536 in
theorem w_c1 : (Jvm.Cond.code ({ cls := "com/example/pareto_workflow_scheduler/paretoworkflowscheduler/algorithm/ReferencePoints", name := "alike", desc := "([I[D)[D" } : Jvm.MethodName) prog_31_method_9_code (6 : Nat) (Option.some (Jvm.ClassFile.FieldType.array Jvm.ClassFile.FieldType.double))).before args0 about1 = true := code_word (m := ⟨3, 0⟩) (meth := k3m0) (c := k3c0) (by decide +kernel) rfl rfl rfl (by decide +kernel)
set_option maxRecDepth 65536 in
theorem w_c2 : (Jvm.Cond.code ({ cls := "com/example/pareto_workflow_scheduler/paretoworkflowscheduler/algorithm/ReferencePointsAlikePinLaw", name := "first", desc := "([II)I" } : Jvm.MethodName) method_2_code (2 : Nat) (Option.some Jvm.ClassFile.FieldType.int)).before args0 about1 = true := code_word (m := ⟨1, 1⟩) (meth := k1m1) (c := k1c1) (by decide +kernel) rfl rfl rfl (by decide +kernel)
def codes1 : List Jvm.Cond := [Jvm.Cond.code x code maxLocals ret, Jvm.Cond.code ({ cls := "com/example/pareto_workflow_scheduler/paretoworkflowscheduler/algorithm/ReferencePoints", name := "alike", desc := "([I[D)[D" } : Jvm.MethodName) prog_31_method_9_code (6 : Nat) (Option.some (Jvm.ClassFile.FieldType.array Jvm.ClassFile.FieldType.double)), Jvm.Cond.code ({ cls := "com/example/pareto_workflow_scheduler/paretoworkflowscheduler/algorithm/ReferencePointsAlikePinLaw", name := "first", desc := "([II)I" } : Jvm.MethodName) method_2_code (2 : Nat) (Option.some Jvm.ClassFile.FieldType.int)]
set_option maxRecDepth 65536 in
theorem codes_eq : words1.filter isCode = codes1 := rfl
theorem w_codes : ∀ c ∈ words1.filter isCode, c.before args0 about1 = true := by
  rw [codes_eq]
  intro c hc
  simp only [codes1, List.mem_cons, List.not_mem_nil, or_false] at hc
  rcases hc with rfl | rfl | rfl
  · exact w_c0
  · exact w_c1
  · exact w_c2
set_option maxRecDepth 65536 in
theorem w_t1 : words1.all (fun c => isCode c || c.before args0 about1) = true := by decide +kernel
theorem w_tables : (allAtoms (Jvm.Cond.code x code maxLocals ret :: tables_1)).before args0 about1 = true := by
  rw [allAtoms_all]
  show words1.all (fun c => c.before args0 about1) = true
  refine all_split ?_ w_codes
  rw [w_t1]
set_option maxRecDepth 65536 in
theorem w_case : (Jvm.Cond.and given_1 narrow_1).before args0 about1 = true := by decide +kernel
theorem w_applies : (headSpec (Jvm.Cond.code x code maxLocals ret :: tables_1) room_1).applies x e0.platform about1 = true :=
  (Spec.applies_iff w_frames).mpr ⟨w_running, w_runnable, w_alone, w_named, w_hears, w_ripe, w_room, w_tables⟩
theorem atStart : AtStart classFile x code maxLocals ret World_1 tables_1 room_1 Calls_1 rest_1 Pre_1 launch0 p0 e0 about1 theMethod args0 below0 :=
  ⟨lists_1, trivial, launch0.admits_env _ _ _, launch0.least_env, fairChoices_fair.cas, fairChoices_fair.clock, w_frames, w_args, w_heap, w_applies, trivial, trivial, w_case⟩
end start1
theorem witness_1 : WitnessClaimed_1 := ⟨start1.p0, start1.e0, start1.about1, start1.theMethod, start1.args0, start1.below0, start1.atStart⟩
end Jvm.Pilot.@@N@@
