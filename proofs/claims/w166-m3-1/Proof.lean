import JvmDerived
import JvmDerived.Pilot.@@N@@Statement
import JvmDerived.Pilot.@@N@@Code
set_option linter.unusedVariables false
set_option linter.unusedSimpArgs false
@@BLOCK:NumsL.lean.txt@@
@@BLOCK:HandJ.lean.txt@@
@@BLOCK:SymMore.lean.txt@@
namespace Jvm.Own
open Sem ClassFile Op Lib Jvm.Stand Jvm.Free Jvm.LawKit Jvm.RoadKit
section Arrays
variable {p : Program} {l : Launch} {e : Env} {R : Room} {s : State} {m : MethodId} {args : Array Value} {below : List Frame} {meth : Method} {c : Code} {T : State} {locs : List Loc} {cells slots : Nat} {Z : State} {h h' h0 : Heap} {a b : Addr} {ty : FieldType} {vs : List Value} {xs : List Int32} {v : Value} {sl : Nat} {ws : List Addr}
/-- the array at a: of the kind ty, its components vs -/
def AV (Z : State) (h : Heap) (a : Addr) (ty : FieldType) (vs : List Value) : Prop := ∃ c : Cell, Arr Z h a c ty ∧ c.slots = vs.toArray ∧ vs.length < 2147483648
/-- an int array -/
def IA (Z : State) (h : Heap) (a : Addr) (xs : List Int32) : Prop := AV Z h a .int (xs.map Value.int)
theorem AV.lt (F : AV Z h a ty vs) : a < h.size := by obtain ⟨c, A, -⟩ := F; exact A.lt
theorem AV.ext (F : AV Z h a ty vs) (E : Ext h h') : AV Z h' a ty vs := by obtain ⟨c, A, r⟩ := F; exact ⟨c, A.ext E, r⟩
theorem AV.other (F : AV Z h b ty vs) (W : Wr h h' a sl v) (q : b ≠ a) : AV Z h' b ty vs := by obtain ⟨c, A, r⟩ := F; exact ⟨c, A.other W q, r⟩
theorem AV.keep (F : AV Z h a ty vs) (K : Keep h h' ws) (q : a ∉ ws) : AV Z h' a ty vs := by obtain ⟨c, A, r⟩ := F; exact ⟨c, ⟨K.2.1 a c A.1 q, A.2⟩, r⟩
theorem AV.wr (F : AV Z h a ty vs) (W : Wr h h' a sl v) : AV Z h' a ty (vs.set sl v) := by
  obtain ⟨c, A, q, n⟩ := F
  exact ⟨_, A.same W, by simp [Cell.setSlot, q], by simpa using n⟩
theorem clamp_lt (z : Int32) : z.toNatClampNeg < 2147483648 := by
  have := z.toInt_lt
  simp only [Int32.toNatClampNeg]; omega
theorem AV.new {k : ClassId} {z : Int32} (A : Arr Z h a (newA k ty z) ty) (q : List.replicate z.toNatClampNeg (defaultValue ty) = vs) : AV Z h a ty vs := by
  subst q
  exact ⟨_, A, by simp [newA], by rw [List.length_replicate]; exact clamp_lt z⟩
theorem IA.lt (F : IA Z h a xs) : a < h.size := AV.lt F
theorem IA.ext (F : IA Z h a xs) (E : Ext h h') : IA Z h' a xs := AV.ext F E
theorem IA.other (F : IA Z h b xs) (W : Wr h h' a sl v) (q : b ≠ a) : IA Z h' b xs := AV.other F W q
theorem IA.keep (F : IA Z h a xs) (K : Keep h h' ws) (q : a ∉ ws) : IA Z h' a xs := AV.keep F K q
theorem IA.new {k : ClassId} {z : Int32} (A : Arr Z h a (newA k .int z) .int) {n : Nat} (q : z.toNatClampNeg = n) : IA Z h a (List.replicate n (0 : Int32)) := AV.new A (by subst q; rw [List.map_replicate]; rfl)
theorem IA.wr {x : Int32} (F : IA Z h a xs) (W : Wr h h' a sl (.int x)) : IA Z h' a (xs.set sl x) := by
  have := AV.wr F W
  rw [← List.map_set] at this; exact this
/-- the place j of an int array; the array with x there -/
def gi (xs : List Int32) (j : Int32) : Int32 := xs.getD j.toNatClampNeg 0
def si (xs : List Int32) (j x : Int32) : List Int32 := xs.set j.toNatClampNeg x
theorem si_len (xs : List Int32) (j x : Int32) : (si xs j x).length = xs.length := by simp [si]
theorem clamp_of {j : Int32} {n : Nat} (hj : 0 ≤ j.toInt ∧ j.toInt < (n : Int)) : j.toNatClampNeg < n ∧ ¬ j < 0 := by
  obtain ⟨h1, h2⟩ := hj
  refine ⟨by simp only [Int32.toNatClampNeg]; omega, ?_⟩
  rw [Int32.lt_iff_toInt_lt]; show ¬ _ < (0 : Int); omega
theorem inb_of' {cl : Cell} {j : Int32} {n : Nat} (hn : cl.slots.size = n) (hj : 0 ≤ j.toInt ∧ j.toInt < (n : Int)) : ¬ (j < 0 ∨ cl.slots.size ≤ j.toNatClampNeg) := by
  obtain ⟨h1, h2⟩ := clamp_of hj
  rintro (q | q)
  · exact h2 q
  · omega
theorem ldI (X : Stand p l e R s m args below meth c T locs cells slots) (hx : p.tables.exec = Jvm.exec) (hZ : Z.Warmed39 s.vm) (eT : T.heap = h) (F : IA Z h a xs) {j : Int32} (n : Nat) (hl : xs.length = n) (hj : 0 ≤ j.toInt ∧ j.toInt < (n : Int)) {g : JFrame} (hg : g.method = m) {rest : List Value} (hs : g.stack = .int j :: .ref a :: rest) (hd : decode c.code g.pc = .ok (.iaload, 1)) :
    ∀ target, Steps p.tables e below (T.setTop { g with pc := g.pc + 1, stack := .int (gi xs j) :: rest }) target → Steps p.tables e below (T.setTop g) target := by
  obtain ⟨cl, A, q, r⟩ := F
  have hsz : cl.slots.size = n := by rw [q]; simp [hl]
  have hi := (clamp_of hj).1
  refine X.iaload hx (v := .int (gi xs j)) (by rw [eT]; exact A.1) (State.isArrayOf_alike hZ.alike A.2.1) A.2.2 (inb_of' hsz hj) ?_ hg hs hd
  rw [q]
  have : j.toNatClampNeg < xs.length := by omega
  simp [gi, List.getD_eq_getElem?_getD, this]
theorem lnV (X : Stand p l e R s m args below meth c T locs cells slots) (hx : p.tables.exec = Jvm.exec) (hZ : Z.Warmed39 s.vm) (eT : T.heap = h) (F : AV Z h a ty vs) {z : Int32} (hz : vs.length.toInt32 = z) {g : JFrame} (hg : g.method = m) {rest : List Value} (hs : g.stack = .ref a :: rest) (hd : decode c.code g.pc = .ok (.arraylength, 1)) :
    ∀ target, Steps p.tables e below (T.setTop { g with pc := g.pc + 1, stack := .int z :: rest }) target → Steps p.tables e below (T.setTop g) target := by
  obtain ⟨cl, A, q, r⟩ := F
  intro target k
  refine X.arraylength hx (by rw [eT]; exact A.1) (State.isArrayOf_alike hZ.alike A.2.1) hg hs hd _ ?_
  have : cl.slots.size.toInt32 = z := by rw [q]; simpa using hz
  rw [this]; exact k
theorem lnI (X : Stand p l e R s m args below meth c T locs cells slots) (hx : p.tables.exec = Jvm.exec) (hZ : Z.Warmed39 s.vm) (eT : T.heap = h) (F : IA Z h a xs) {z : Int32} (hz : xs.length.toInt32 = z) {g : JFrame} (hg : g.method = m) {rest : List Value} (hs : g.stack = .ref a :: rest) (hd : decode c.code g.pc = .ok (.arraylength, 1)) :
    ∀ target, Steps p.tables e below (T.setTop { g with pc := g.pc + 1, stack := .int z :: rest }) target → Steps p.tables e below (T.setTop g) target :=
  lnV X hx hZ eT F (by rw [List.length_map]; exact hz) hg hs hd
theorem stIA (X : Stand p l e R s m args below meth c T locs cells slots) (hx : p.tables.exec = Jvm.exec) (hZ : Z.Warmed39 s.vm) (eT : T.heap = h) (F : IA Z h a xs) {j x : Int32} (n : Nat) (hl : xs.length = n) (hj : 0 ≤ j.toInt ∧ j.toInt < (n : Int)) {g : JFrame} (hg : g.method = m) {rest : List Value} (hs : g.stack = .int x :: .int j :: .ref a :: rest) (hd : decode c.code g.pc = .ok (.iastore, 1)) :
    ∃ T' h', Stand p l e R s m args below meth c T' (locs ++ [⟨a, j.toNatClampNeg⟩]) cells slots ∧ T'.heap = h' ∧ Wr h h' a j.toNatClampNeg (.int x) ∧ IA Z h' a (si xs j x) ∧ ∀ target, Steps p.tables e below (T'.setTop { g with pc := g.pc + 1, stack := rest }) target → Steps p.tables e below (T.setTop g) target := by
  have F0 := F
  obtain ⟨cl, A, q, r⟩ := F
  have hsz : cl.slots.size = n := by rw [q]; simp [hl]
  obtain ⟨T', h', X', e', W, st⟩ := stI X hx hZ eT A (inb_of' hsz hj) hg hs hd
  exact ⟨T', h', X', e', W, IA.wr F0 W, st⟩
/-- a place read or written, where it lies in the array; a fresh array of at most cap places -/
def rd (xs : List Int32) (j : Int32) : Option Int32 := if 0 ≤ j.toInt ∧ j.toInt < (xs.length : Int) then some (gi xs j) else none
def wt (xs : List Int32) (j x : Int32) : Option (List Int32) := if 0 ≤ j.toInt ∧ j.toInt < (xs.length : Int) then some (si xs j x) else none
def mk (cap : Nat) (n : Int32) : Option (List Int32) := if 0 ≤ n.toInt ∧ n.toInt ≤ (cap : Int) then some (List.replicate n.toNatClampNeg 0) else none
def ln (xs : List Int32) : Int32 := xs.length.toInt32
theorem rd_some {xs : List Int32} {j v : Int32} (q : rd xs j = some v) : (0 ≤ j.toInt ∧ j.toInt < (xs.length : Int)) ∧ gi xs j = v := by
  unfold rd at q
  split at q
  · next h => exact ⟨h, Option.some.inj q⟩
  · cases q
theorem wt_some {xs ys : List Int32} {j x : Int32} (q : wt xs j x = some ys) : (0 ≤ j.toInt ∧ j.toInt < (xs.length : Int)) ∧ si xs j x = ys := by
  unfold wt at q
  split at q
  · next h => exact ⟨h, Option.some.inj q⟩
  · cases q
theorem mk_some {cap : Nat} {n : Int32} {ys : List Int32} (q : mk cap n = some ys) : ¬ n < 0 ∧ n.toNatClampNeg ≤ cap ∧ ys = List.replicate n.toNatClampNeg 0 := by
  unfold mk at q
  split at q
  · next h =>
    refine ⟨?_, ?_, (Option.some.inj q).symm⟩
    · rw [Int32.lt_iff_toInt_lt]; show ¬ _ < (0 : Int); omega
    · simp only [Int32.toNatClampNeg]; omega
  · cases q
theorem ldO (X : Stand p l e R s m args below meth c T locs cells slots) (hx : p.tables.exec = Jvm.exec) (hZ : Z.Warmed39 s.vm) (eT : T.heap = h) (F : IA Z h a xs) {j x : Int32} (q : rd xs j = some x) {g : JFrame} (hg : g.method = m) {rest : List Value} (hs : g.stack = .int j :: .ref a :: rest) (hd : decode c.code g.pc = .ok (.iaload, 1)) :
    ∀ target, Steps p.tables e below (T.setTop { g with pc := g.pc + 1, stack := .int x :: rest }) target → Steps p.tables e below (T.setTop g) target := by
  obtain ⟨hb, rfl⟩ := rd_some q
  exact ldI X hx hZ eT F xs.length rfl hb hg hs hd
theorem stO (X : Stand p l e R s m args below meth c T locs cells slots) (hx : p.tables.exec = Jvm.exec) (hZ : Z.Warmed39 s.vm) (eT : T.heap = h) (F : IA Z h a xs) {j x : Int32} {ys : List Int32} (q : wt xs j x = some ys) {g : JFrame} (hg : g.method = m) {rest : List Value} (hs : g.stack = .int x :: .int j :: .ref a :: rest) (hd : decode c.code g.pc = .ok (.iastore, 1)) :
    ∃ T' h', Stand p l e R s m args below meth c T' (locs ++ [⟨a, j.toNatClampNeg⟩]) cells slots ∧ T'.heap = h' ∧ Wr h h' a j.toNatClampNeg (.int x) ∧ IA Z h' a ys ∧ ∀ target, Steps p.tables e below (T'.setTop { g with pc := g.pc + 1, stack := rest }) target → Steps p.tables e below (T.setTop g) target := by
  obtain ⟨hb, rfl⟩ := wt_some q
  exact stIA X hx hZ eT F xs.length rfl hb hg hs hd
theorem IA.fit {c : Cell} (A : Arr Z h a c .int) (q : c.slots = (xs.map Value.int).toArray) : FitC Z c := fitC_of A fun i hi v hv => by
  rw [q] at hv
  simp at hv
  obtain ⟨x, -, rfl⟩ := hv
  rfl
theorem clI (X : Stand p l e R s m args below meth c T locs cells slots) (hx : p.tables.exec = Jvm.exec) (hZ : Z.Warmed39 s.vm) {a0 : Array Value} {own : String} {index : Nat} (hown : s.vm.findClass own = some m.cls)
    (w1 : (Cond.methodLink own index ⟨"[I", "clone", "()Ljava/lang/Object;"⟩).before a0 Z = true) (w2 : (Cond.sameMethod "[I" "java/lang/Object" "clone" "()Ljava/lang/Object;").before a0 Z = true) (w3 : (Cond.native ⟨"java/lang/Object", "clone", "()Ljava/lang/Object;"⟩).before a0 Z = true)
    (w4 : (Cond.instanceMethod ⟨"java/lang/Object", "clone", "()Ljava/lang/Object;"⟩).before a0 Z = true) (w5 : (Cond.selects "[I" ⟨"[I", "clone", "()Ljava/lang/Object;"⟩ ⟨"java/lang/Object", "clone", "()Ljava/lang/Object;"⟩).before a0 Z = true) (w6 : (Cond.castable "[I" "java/lang/Cloneable").before a0 Z = true)
    (eT : T.heap = h) (F : IA Z h a xs) (E : Exa Z h a "[I") {g : JFrame} (hg : g.method = m) (hsize : g.locals.size = c.maxLocals) {rest : List Value} (hs : g.stack = .ref a :: rest) (hd : decode c.code g.pc = .ok (.invokevirtual index, 3))
    (hf : 1 ≤ R.frames) {W cap : Nat} (hW : 2 * g.monitorRoom + (rest.map fun v => v.category).sum ≤ W) (hl : W + 14 ≤ R.locals) (hcap : xs.length ≤ cap) (hc : cells + 1 ≤ R.cells) (hsl : slots + cap ≤ R.slots) :
    ∃ T' h', Stand p l e R s m args below meth c T' locs (cells + 1) (slots + cap) ∧ T'.heap = h' ∧ Ext h h' ∧ IA Z h' h.size xs ∧ Exa Z h' h.size "[I" ∧
      ∀ target, Steps p.tables e below (T'.setTop { g with pc := g.pc + 3, stack := .ref h.size :: rest }) target → Steps p.tables e below (T.setTop g) target := by
  obtain ⟨cl, A, q, r⟩ := F
  have hsz : cl.slots.size = xs.length := by rw [q]; simp
  obtain ⟨T', h', X', e', E', A', EE, st⟩ := cloneA X hx hZ hown w1 w2 w3 w4 w5 w6 eT A E (IA.fit A q) hg hsize hs hd hf hW hl (by rw [hsz]; exact hcap) hc hsl
  exact ⟨T', h', X', e', E', ⟨_, A', q, r⟩, EE, st⟩
/-- a byte array -/
def BA (Z : State) (h : Heap) (a : Addr) (xs : List Int32) : Prop := AV Z h a .byte (xs.map Value.int)
theorem BA.lt (F : BA Z h a xs) : a < h.size := AV.lt F
theorem BA.ext (F : BA Z h a xs) (E : Ext h h') : BA Z h' a xs := AV.ext F E
theorem BA.other (F : BA Z h b xs) (W : Wr h h' a sl v) (q : b ≠ a) : BA Z h' b xs := AV.other F W q
theorem BA.keep (F : BA Z h a xs) (K : Keep h h' ws) (q : a ∉ ws) : BA Z h' a xs := AV.keep F K q
theorem BA.new {k : ClassId} {z : Int32} (A : Arr Z h a (newA k .byte z) .byte) {n : Nat} (q : z.toNatClampNeg = n) : BA Z h a (List.replicate n (0 : Int32)) := AV.new A (by subst q; rw [List.map_replicate]; rfl)
theorem BA.wr {x : Int32} (F : BA Z h a xs) (W : Wr h h' a sl (.int x)) : BA Z h' a (xs.set sl x) := by
  have := AV.wr F W
  rw [← List.map_set] at this; exact this
theorem ldBO (X : Stand p l e R s m args below meth c T locs cells slots) (hx : p.tables.exec = Jvm.exec) (hZ : Z.Warmed39 s.vm) (eT : T.heap = h) (F : BA Z h a xs) {j x : Int32} (q : rd xs j = some x) {g : JFrame} (hg : g.method = m) {rest : List Value} (hs : g.stack = .int j :: .ref a :: rest) (hd : decode c.code g.pc = .ok (.baload, 1)) :
    ∀ target, Steps p.tables e below (T.setTop { g with pc := g.pc + 1, stack := .int x :: rest }) target → Steps p.tables e below (T.setTop g) target := by
  obtain ⟨hj, rfl⟩ := rd_some q
  obtain ⟨cl, A, q, r⟩ := F
  have hsz : cl.slots.size = xs.length := by rw [q]; simp
  have hi := (clamp_of hj).1
  refine X.baloadBytes hx (v := .int (gi xs j)) (by rw [eT]; exact A.1) (State.isArrayOf_alike hZ.alike A.2.1) A.2.2 (inb_of' hsz hj) ?_ hg hs hd
  rw [q]
  simp [gi, List.getD_eq_getElem?_getD, hi]
theorem stBO (X : Stand p l e R s m args below meth c T locs cells slots) (hx : p.tables.exec = Jvm.exec) (hZ : Z.Warmed39 s.vm) (eT : T.heap = h) (F : BA Z h a xs) {j x : Int32} {ys : List Int32} (q : wt xs j (nar .byte x) = some ys) {g : JFrame} (hg : g.method = m) {rest : List Value} (hs : g.stack = .int x :: .int j :: .ref a :: rest) (hd : decode c.code g.pc = .ok (.bastore, 1)) :
    ∃ T' h', Stand p l e R s m args below meth c T' (locs ++ [⟨a, j.toNatClampNeg⟩]) cells slots ∧ T'.heap = h' ∧ Wr h h' a j.toNatClampNeg (.int (nar .byte x)) ∧ BA Z h' a ys ∧ ∀ target, Steps p.tables e below (T'.setTop { g with pc := g.pc + 1, stack := rest }) target → Steps p.tables e below (T.setTop g) target := by
  obtain ⟨hj, rfl⟩ := wt_some q
  have F0 := F
  obtain ⟨cl, A, q, r⟩ := F
  have hsz : cl.slots.size = xs.length := by rw [q]; simp
  obtain ⟨T', h', X', e', W, st⟩ := stB X hx hZ eT A (inb_of' hsz hj) hg hs hd
  exact ⟨T', h', X', e', W, BA.wr F0 W, st⟩
/-- an array of references to objects of the class C -/
def RA (Z : State) (h : Heap) (a : Addr) (C : String) (vs : List Value) : Prop := ∃ c : Cell, Arr Z h a c (.object C) ∧ c.slots = vs.toArray ∧ vs.length < 2147483648 ∧ Ovr Z c.cls C
variable {C : String}
theorem RA.lt (F : RA Z h a C vs) : a < h.size := by obtain ⟨c, A, -⟩ := F; exact A.lt
theorem RA.ext (F : RA Z h a C vs) (E : Ext h h') : RA Z h' a C vs := by obtain ⟨c, A, r⟩ := F; exact ⟨c, A.ext E, r⟩
theorem RA.other (F : RA Z h b C vs) (W : Wr h h' a sl v) (q : b ≠ a) : RA Z h' b C vs := by obtain ⟨c, A, r⟩ := F; exact ⟨c, A.other W q, r⟩
theorem RA.new {k : ClassId} {z : Int32} (A : Arr Z h a (newA k (.object C) z) (.object C)) (O : Ovr Z k C) (q : List.replicate z.toNatClampNeg Value.null = vs) : RA Z h a C vs := by
  subst q
  exact ⟨_, A, by simp [newA, defaultValue], by rw [List.length_replicate]; exact clamp_lt z, O⟩
theorem stRA (X : Stand p l e R s m args below meth c T locs cells slots) (hx : p.tables.exec = Jvm.exec) (hZ : Z.Warmed39 s.vm) (eT : T.heap = h) (F : RA Z h a C vs) {j : Int32} {y : Addr} (n : Nat) (hl : vs.length = n) (hj : 0 ≤ j.toInt ∧ j.toInt < (n : Int)) (I : Ins Z h y C true) {g : JFrame} (hg : g.method = m) {rest : List Value} (hs : g.stack = .ref y :: .int j :: .ref a :: rest) (hd : decode c.code g.pc = .ok (.aastore, 1)) :
    ∃ T' h', Stand p l e R s m args below meth c T' (locs ++ [⟨a, j.toNatClampNeg⟩]) cells slots ∧ T'.heap = h' ∧ Wr h h' a j.toNatClampNeg (.ref y) ∧ RA Z h' a C (vs.set j.toNatClampNeg (.ref y)) ∧ ∀ target, Steps p.tables e below (T'.setTop { g with pc := g.pc + 1, stack := rest }) target → Steps p.tables e below (T.setTop g) target := by
  obtain ⟨cl, A, q, r, O⟩ := F
  have hsz : cl.slots.size = n := by rw [q]; simp [hl]
  obtain ⟨T', h', X', e', W, st⟩ := stR X hx hZ eT A (inb_of' hsz hj) rfl (Sto.of A O I) hg hs hd
  exact ⟨T', h', X', e', W, ⟨_, A.same W, by simp [Cell.setSlot, q], by simpa using r, O⟩, st⟩
theorem ldRA (X : Stand p l e R s m args below meth c T locs cells slots) (hx : p.tables.exec = Jvm.exec) (hZ : Z.Warmed39 s.vm) (eT : T.heap = h) (F : RA Z h a C vs) {j : Int32} (n : Nat) (hl : vs.length = n) (hj : 0 ≤ j.toInt ∧ j.toInt < (n : Int)) (hv : vs[j.toNatClampNeg]? = some v) {g : JFrame} (hg : g.method = m) {rest : List Value} (hs : g.stack = .int j :: .ref a :: rest) (hd : decode c.code g.pc = .ok (.aaload, 1)) :
    ∀ target, Steps p.tables e below (T.setTop { g with pc := g.pc + 1, stack := v :: rest }) target → Steps p.tables e below (T.setTop g) target := by
  obtain ⟨cl, A, q, r, O⟩ := F
  have hsz : cl.slots.size = n := by rw [q]; simp [hl]
  exact X.aaload hx (by rw [eT]; exact A.1) (State.isArrayOf_alike hZ.alike A.2.1) rfl A.2.2 (inb_of' hsz hj) (by rw [q]; simpa using hv) hg hs hd
theorem ldAV (X : Stand p l e R s m args below meth c T locs cells slots) (hx : p.tables.exec = Jvm.exec) (hZ : Z.Warmed39 s.vm) (eT : T.heap = h) (F : AV Z h a ty vs) (hty : ty.isReference = true) {j : Int32} (n : Nat) (hl : vs.length = n) (hj : 0 ≤ j.toInt ∧ j.toInt < (n : Int)) (hv : vs[j.toNatClampNeg]? = some v) {g : JFrame} (hg : g.method = m) {rest : List Value} (hs : g.stack = .int j :: .ref a :: rest) (hd : decode c.code g.pc = .ok (.aaload, 1)) :
    ∀ target, Steps p.tables e below (T.setTop { g with pc := g.pc + 1, stack := v :: rest }) target → Steps p.tables e below (T.setTop g) target := by
  obtain ⟨cl, A, q, r⟩ := F
  have hsz : cl.slots.size = n := by rw [q]; simp [hl]
  exact X.aaload hx (by rw [eT]; exact A.1) (State.isArrayOf_alike hZ.alike A.2.1) hty A.2.2 (inb_of' hsz hj) (by rw [q]; simpa using hv) hg hs hd
def ga (as : List Addr) (j : Int32) : Addr := as.getD j.toNatClampNeg 0
theorem ga_at {as : List Addr} {j : Int32} {n : Nat} (hl : as.length = n) (hj : 0 ≤ j.toInt ∧ j.toInt < (n : Int)) : (as.map Value.ref)[j.toNatClampNeg]? = some (.ref (ga as j)) := by
  have : j.toNatClampNeg < as.length := by rw [hl]; exact (clamp_of hj).1
  simp [ga, List.getD_eq_getElem?_getD, this]
theorem ga_all {as : List Addr} {j : Int32} {n : Nat} {P : Addr → Prop} (hl : as.length = n) (hj : 0 ≤ j.toInt ∧ j.toInt < (n : Int)) (q : ∀ x ∈ as, P x) : P (ga as j) := by
  have h : j.toNatClampNeg < as.length := by rw [hl]; exact (clamp_of hj).1
  have : ga as j = as[j.toNatClampNeg] := by simp [ga, List.getD_eq_getElem?_getD, h]
  rw [this]; exact q _ (List.getElem_mem h)
theorem size_wr (W : Wr h h' a sl v) {n : Nat} (q : n ≤ h.size) : n ≤ h'.size := by rw [W.size]; exact q
end Arrays
end Jvm.Own
namespace Jvm.RoadKit
open Sem ClassFile Op Lib Jvm.Stand Jvm.Free Jvm.LawKit
section New
variable {p : Program} {l : Launch} {e : Env} {R : Room} {s : State} {m : MethodId} {args : Array Value} {below : List Frame} {meth : Method} {c : Code} {T : State} {locs : List Loc} {cells slots : Nat}
theorem retI (X : Stand p l e R s m args below meth c T locs cells slots) (hx : p.tables.exec = Jvm.exec) {pc : Nat} {Ls : Array Slot} {z : Int32} {rest : List Value} (hret : meth.sig.returnType = some .int) (hd : decode c.code pc = .ok (.ireturn, 1)) {fs : List Frame}
    (hl : ∀ (f : JFrame) (acts : List Action), f.method = m → f.locked = none → f.entered = [] → (doReturn e (T.setTop f) acts (some (.int z))).1 = T.setFrames fs) : Steps p.tables e below (T.setTop (mkF m pc Ls (.int z :: rest))) (T.setFrames fs) := by
  have hm' : T.vm.method? m = some meth := X.method'
  have hn : narrow .int (.int z) = .int z := rfl
  show Steps p.tables e below (T.setTop { method := m, pc := pc, locals := Ls, stack := _ :: rest, locked := none }) _
  jvm_step X.here [X.here.top, hx, hd, hm', hret, hn]
  first | (intro acts; rw [hl _ acts rfl rfl rfl]) | rw [hl _ _ rfl rfl rfl]
  exact Steps.refl _
theorem retA (X : Stand p l e R s m args below meth c T locs cells slots) (hx : p.tables.exec = Jvm.exec) {pc : Nat} {Ls : Array Slot} {z : Value} {t : FieldType} {rest : List Value} (hret : meth.sig.returnType = some t) (ht : t.isReference = true) (hz : z.isRef = true) (hd : decode c.code pc = .ok (.areturn, 1)) {fs : List Frame}
    (hl : ∀ (f : JFrame) (acts : List Action), f.method = m → f.locked = none → f.entered = [] → (doReturn e (T.setTop f) acts (some z)).1 = T.setFrames fs) : Steps p.tables e below (T.setTop (mkF m pc Ls (z :: rest))) (T.setFrames fs) := by
  have hm' : T.vm.method? m = some meth := X.method'
  show Steps p.tables e below (T.setTop { method := m, pc := pc, locals := Ls, stack := _ :: rest, locked := none }) _
  jvm_step X.here [X.here.top, hx, hd, hm', hret, ht, hz]
  first | (intro acts; rw [hl _ acts rfl rfl rfl]) | rw [hl _ _ rfl rfl rfl]
  exact Steps.refl _
end New
end Jvm.RoadKit
namespace Jvm.Pilot.@@N@@
open Jvm Jvm.ClassFile Sem Op Lib Jvm.Free Jvm.Stand Jvm.LawKit Jvm.RoadKit Bundle Jvm.Pilot.@@N@@.Jvm.D
theorem own_tsw {x : Int32} {k : Int} (h : ¬ x = Int32.ofInt k) (h1 : -2147483648 ≤ k) (h2 : k < 2147483648) : x.toInt ≠ k := fun q => h (by rw [← q]; exact (Int32.ofInt_toInt x).symm)
theorem own_rem {x y : Int32} (hx : 0 ≤ x.toInt) (hy : 0 < y.toInt) : (x - (x / y) * y).toInt = x.toInt % y.toInt := by
  have hxl := x.toInt_lt
  have e1 : (x / y).toInt = x.toInt / y.toInt := by rw [Jvm.Kit.i32_div (by omega), Int.tdiv_eq_ediv_of_nonneg hx]
  have m1 : x.toInt / y.toInt * y.toInt = x.toInt - x.toInt % y.toInt := by
    have := Int.mul_ediv_add_emod x.toInt y.toInt
    rw [Int.mul_comm] at this; omega
  have m2 : 0 ≤ x.toInt % y.toInt := Int.emod_nonneg _ (by omega)
  have m3 : x.toInt % y.toInt ≤ x.toInt := by
    have := Int.mul_nonneg (Int.ediv_nonneg hx (by omega : 0 ≤ y.toInt)) (by omega : 0 ≤ y.toInt); omega
  have e2 : ((x / y) * y).toInt = x.toInt - x.toInt % y.toInt := by rw [Jvm.Kit.i32_mul (by rw [e1, m1]; omega) (by rw [e1, m1]; omega), e1, m1]
  rw [Jvm.Kit.i32_sub (by rw [e2]; omega) (by rw [e2]; omega), e2]; omega
theorem own_pos (x : Int32) : (x &&& 2147483647).toInt = x.toInt % 2147483648 := Jvm.Kit.i32_mask x 2147483647 (k := 31) (by decide) (by decide)

theorem d5_2 : decode prog_35_method_6_code 2 = .ok (.aload_n 0, 1) := by decide +kernel
theorem d5_3 : decode prog_35_method_6_code 3 = .ok (.getfield 7, 3) := by decide +kernel
theorem d5_6 : decode prog_35_method_6_code 6 = .ok (.iload_n 2, 1) := by decide +kernel
theorem d5_7 : decode prog_35_method_6_code 7 = .ok (.iaload, 1) := by decide +kernel
theorem d5_8 : decode prog_35_method_6_code 8 = .ok (.iload_n 2, 1) := by decide +kernel
theorem d5_9 : decode prog_35_method_6_code 9 = .ok (.if_icmp .eq 30, 3) := by decide +kernel
theorem d5_12 : decode prog_35_method_6_code 12 = .ok (.aload_n 0, 1) := by decide +kernel
theorem d5_13 : decode prog_35_method_6_code 13 = .ok (.getfield 7, 3) := by decide +kernel
theorem d5_16 : decode prog_35_method_6_code 16 = .ok (.iload_n 2, 1) := by decide +kernel
theorem d5_17 : decode prog_35_method_6_code 17 = .ok (.aload_n 0, 1) := by decide +kernel
theorem d5_18 : decode prog_35_method_6_code 18 = .ok (.getfield 7, 3) := by decide +kernel
theorem d5_21 : decode prog_35_method_6_code 21 = .ok (.aload_n 0, 1) := by decide +kernel
theorem d5_22 : decode prog_35_method_6_code 22 = .ok (.getfield 7, 3) := by decide +kernel
theorem d5_25 : decode prog_35_method_6_code 25 = .ok (.iload_n 2, 1) := by decide +kernel
theorem d5_26 : decode prog_35_method_6_code 26 = .ok (.iaload, 1) := by decide +kernel
theorem d5_27 : decode prog_35_method_6_code 27 = .ok (.iaload, 1) := by decide +kernel
theorem d5_28 : decode prog_35_method_6_code 28 = .ok (.iastore, 1) := by decide +kernel
theorem d5_29 : decode prog_35_method_6_code 29 = .ok (.aload_n 0, 1) := by decide +kernel
theorem d5_30 : decode prog_35_method_6_code 30 = .ok (.getfield 7, 3) := by decide +kernel
theorem d5_33 : decode prog_35_method_6_code 33 = .ok (.iload_n 2, 1) := by decide +kernel
theorem d5_34 : decode prog_35_method_6_code 34 = .ok (.iaload, 1) := by decide +kernel
theorem d5_35 : decode prog_35_method_6_code 35 = .ok (.istore_n 2, 1) := by decide +kernel
theorem d5_36 : decode prog_35_method_6_code 36 = .ok (.goto (-34), 3) := by decide +kernel
def M_lpF : Nat → Int32 → List Int32 → Option (Int32 × List Int32)
  | 0, _, _ => none
  | k + 1, nd, xP => (Own.rd xP nd).bind fun v5 => (if v5 = nd then some (nd, xP) else (Own.rd xP nd).bind fun v22 => (Own.rd xP v22).bind fun v24 => (Own.wt xP nd v24).bind fun y26 => (Own.rd y26 nd).bind fun v33 => M_lpF k  v33 y26)
theorem M_lpF_s (k : Nat) (nd : Int32) (xP : List Int32) : M_lpF (k + 1) nd xP = (Own.rd xP nd).bind fun v5 => (if v5 = nd then some (nd, xP) else (Own.rd xP nd).bind fun v22 => (Own.rd xP v22).bind fun v24 => (Own.wt xP nd v24).bind fun y26 => (Own.rd y26 nd).bind fun v33 => M_lpF k  v33 y26) := rfl
set_option maxRecDepth 65536 in
set_option maxHeartbeats 40000000 in
theorem lpF {p : Program} {l : Launch} {e : Env} {R : Room} {s : State} {m : MethodId} {args : Array Value} {below : List Frame} {meth : Method} {c : Code} {Z : State} {a0 : Array Value} {n0 cells slots : Nat} (hx : p.tables.exec = Jvm.exec) (hZ : Z.Warmed39 s.vm) (hw : ∀ d ∈ tables_1, d.before a0 Z = true) (hby : c.code = prog_35_method_6_code) (hml : c.maxLocals = 3) (hown : s.vm.findClass "com/example/tideplan/tideplan/planner/ForwardGroups" = some m.cls) (o0 aP aS aQ : Addr) (p1 : Int32) (xS xQ : List Int32)  (ge_aP : n0 ≤ aP) (ge_aS : n0 ≤ aS) (ge_aQ : n0 ≤ aQ) (ne_aP_aS : aP ≠ aS) (ne_aP_aQ : aP ≠ aQ) (ne_aS_aQ : aS ≠ aQ) (ne_o0_aP : o0 ≠ aP) (ne_o0_aS : o0 ≠ aS) (ne_o0_aQ : o0 ≠ aQ) (k : Nat) : ∀ {T0 : State} {locs : List Loc} {h0 : Heap} (nd : Int32) (xP : List Int32)  (out : Int32 × List Int32) (hM : M_lpF k nd xP = some out) (X0 : Stand p l e R s m args below meth c T0 locs cells slots) (e0 : T0.heap = h0) (N0 : Fr n0 locs) (Z0 : n0 ≤ h0.size)  (E_o0 : Exa Z h0 o0 "com/example/tideplan/tideplan/planner/ForwardGroups") (F_o0_parent : Fld Z h0 o0 "com/example/tideplan/tideplan/planner/ForwardGroups" "parent" "[I" (.ref aP)) (F_o0_size : Fld Z h0 o0 "com/example/tideplan/tideplan/planner/ForwardGroups" "size" "[I" (.ref aS)) (F_o0_parallelism : Fld Z h0 o0 "com/example/tideplan/tideplan/planner/ForwardGroups" "parallelism" "[I" (.ref aQ)) (I_aP : Own.IA Z h0 aP xP) (I_aS : Own.IA Z h0 aS xS) (I_aQ : Own.IA Z h0 aQ xQ),
    ∃ (T' : State) (locs' : List Loc) (h' : Heap) , Stand p l e R s m args below meth c T' locs' cells slots ∧ T'.heap = h' ∧ Fr n0 locs' ∧ n0 ≤ h'.size ∧ Keep h0 h' [aP] ∧ Own.IA Z h' aP out.2 ∧ Steps p.tables e below (T0.setTop (mkF m 2 #[.val (.ref o0), .val (.int p1), .val (.int nd)] [])) (T'.setTop (mkF m 39 #[.val (.ref o0), .val (.int p1), .val (.int out.1)] [])) := by
  induction k with
  | zero => intro T0 locs h0 nd xP out hM X0 e0 N0 Z0 E_o0 F_o0_parent F_o0_size F_o0_parallelism I_aP I_aS I_aQ; cases hM
  | succ k ih =>
    intro T0 locs h0 nd xP out hM X0 e0 N0 Z0 E_o0 F_o0_parent F_o0_size F_o0_parallelism I_aP I_aS I_aQ
    rw [M_lpF_s] at hM
    have q0 : Steps p.tables e below (T0.setTop (mkF m 2 #[.val (.ref o0), .val (.int p1), .val (.int nd)] [])) (T0.setTop (mkF m 2 #[.val (.ref o0), .val (.int p1), .val (.int nd)] [])) := Steps.refl _
    have K0 : Keep h0 h0 [aP] := Keep.refl _ _
    have q1 : Steps p.tables e below (T0.setTop (mkF m 2 #[.val (.ref o0), .val (.int p1), .val (.int nd)] [])) (T0.setTop (mkF m 3 #[.val (.ref o0), .val (.int p1), .val (.int nd)] [(.ref o0)])) := q0.trans (by
        show Steps p.tables e below (T0.setTop (mkF m 2 #[.val (.ref o0), .val (.int p1), .val (.int nd)] [])) _
        refine XS.aloadN X0.here hx rfl (hb hby d5_2) rfl rfl ?_
        show Steps p.tables e below (T0.setTop (mkF m 3 #[.val (.ref o0), .val (.int p1), .val (.int nd)] [(.ref o0)])) _
        exact Steps.refl _)
    obtain ⟨T2, X2, e2, st2⟩ := getF X0 hx hZ hown (host := "") (Or.inl (hw _ (List.mem_of_getElem? (i := 10) rfl))) Via.refl e0 F_o0_parent (g := (mkF m 3 #[.val (.ref o0), .val (.int p1), .val (.int nd)] [(.ref o0)])) rfl rfl (hb hby d5_3)
    have q3 : Steps p.tables e below (T0.setTop (mkF m 2 #[.val (.ref o0), .val (.int p1), .val (.int nd)] [])) (T2.setTop (mkF m 6 #[.val (.ref o0), .val (.int p1), .val (.int nd)] [(.ref aP)])) := q1.trans (st2 _ (Steps.refl _))
    have q4 : Steps p.tables e below (T0.setTop (mkF m 2 #[.val (.ref o0), .val (.int p1), .val (.int nd)] [])) (T2.setTop (mkF m 7 #[.val (.ref o0), .val (.int p1), .val (.int nd)] [(.int nd), (.ref aP)])) := q3.trans (by
        show Steps p.tables e below (T2.setTop (mkF m 6 #[.val (.ref o0), .val (.int p1), .val (.int nd)] [(.ref aP)])) _
        refine XS.iloadN X2.here hx rfl (hb hby d5_6) rfl ?_
        show Steps p.tables e below (T2.setTop (mkF m 7 #[.val (.ref o0), .val (.int p1), .val (.int nd)] [(.int nd), (.ref aP)])) _
        exact Steps.refl _)
    obtain ⟨v5, hv5, hM⟩ := Option.bind_eq_some_iff.mp hM
    have q6 : Steps p.tables e below (T0.setTop (mkF m 2 #[.val (.ref o0), .val (.int p1), .val (.int nd)] [])) (T2.setTop (mkF m 8 #[.val (.ref o0), .val (.int p1), .val (.int nd)] [(.int v5)])) := q4.trans (Own.ldO X2 hx hZ e2 I_aP hv5 (g := (mkF m 7 #[.val (.ref o0), .val (.int p1), .val (.int nd)] [(.int nd), (.ref aP)])) rfl rfl (hb hby d5_7) _ (Steps.refl _))
    have q7 : Steps p.tables e below (T0.setTop (mkF m 2 #[.val (.ref o0), .val (.int p1), .val (.int nd)] [])) (T2.setTop (mkF m 9 #[.val (.ref o0), .val (.int p1), .val (.int nd)] [(.int nd), (.int v5)])) := q6.trans (by
        show Steps p.tables e below (T2.setTop (mkF m 8 #[.val (.ref o0), .val (.int p1), .val (.int nd)] [(.int v5)])) _
        refine XS.iloadN X2.here hx rfl (hb hby d5_8) rfl ?_
        show Steps p.tables e below (T2.setTop (mkF m 9 #[.val (.ref o0), .val (.int p1), .val (.int nd)] [(.int nd), (.int v5)])) _
        exact Steps.refl _)
    by_cases hc9 : v5 = nd
    · rw [if_pos hc9] at hM
      have q10 : Steps p.tables e below (T0.setTop (mkF m 2 #[.val (.ref o0), .val (.int p1), .val (.int nd)] [])) (T2.setTop (mkF m 39 #[.val (.ref o0), .val (.int p1), .val (.int nd)] [])) := q7.trans (by
          show Steps p.tables e below (T2.setTop (mkF m 9 #[.val (.ref o0), .val (.int p1), .val (.int nd)] [(.int nd), (.int v5)])) _
          refine XS.icmpYes X2.here hx rfl (pc0 := 9) (pc' := 39) rfl (hb hby d5_9) rfl (teq hc9).1 (by decide) (by decide) ?_
          show Steps p.tables e below (T2.setTop (mkF m 39 #[.val (.ref o0), .val (.int p1), .val (.int nd)] [])) _
          exact Steps.refl _)
      obtain rfl := Option.some.inj hM
      exact ⟨_, _, _, X2, e2, N0, Z0, K0, I_aP, q10⟩
    · rw [if_neg hc9] at hM
      have q11 : Steps p.tables e below (T0.setTop (mkF m 2 #[.val (.ref o0), .val (.int p1), .val (.int nd)] [])) (T2.setTop (mkF m 12 #[.val (.ref o0), .val (.int p1), .val (.int nd)] [])) := q7.trans (by
          show Steps p.tables e below (T2.setTop (mkF m 9 #[.val (.ref o0), .val (.int p1), .val (.int nd)] [(.int nd), (.int v5)])) _
          refine XS.icmpNo X2.here hx rfl (hb hby d5_9) rfl (feq hc9).1 ?_
          show Steps p.tables e below (T2.setTop (mkF m 12 #[.val (.ref o0), .val (.int p1), .val (.int nd)] [])) _
          exact Steps.refl _)
      have q12 : Steps p.tables e below (T0.setTop (mkF m 2 #[.val (.ref o0), .val (.int p1), .val (.int nd)] [])) (T2.setTop (mkF m 13 #[.val (.ref o0), .val (.int p1), .val (.int nd)] [(.ref o0)])) := q11.trans (by
          show Steps p.tables e below (T2.setTop (mkF m 12 #[.val (.ref o0), .val (.int p1), .val (.int nd)] [])) _
          refine XS.aloadN X2.here hx rfl (hb hby d5_12) rfl rfl ?_
          show Steps p.tables e below (T2.setTop (mkF m 13 #[.val (.ref o0), .val (.int p1), .val (.int nd)] [(.ref o0)])) _
          exact Steps.refl _)
      obtain ⟨T13, X13, e13, st13⟩ := getF X2 hx hZ hown (host := "") (Or.inl (hw _ (List.mem_of_getElem? (i := 10) rfl))) Via.refl e2 F_o0_parent (g := (mkF m 13 #[.val (.ref o0), .val (.int p1), .val (.int nd)] [(.ref o0)])) rfl rfl (hb hby d5_13)
      have q14 : Steps p.tables e below (T0.setTop (mkF m 2 #[.val (.ref o0), .val (.int p1), .val (.int nd)] [])) (T13.setTop (mkF m 16 #[.val (.ref o0), .val (.int p1), .val (.int nd)] [(.ref aP)])) := q12.trans (st13 _ (Steps.refl _))
      have q15 : Steps p.tables e below (T0.setTop (mkF m 2 #[.val (.ref o0), .val (.int p1), .val (.int nd)] [])) (T13.setTop (mkF m 18 #[.val (.ref o0), .val (.int p1), .val (.int nd)] [(.ref o0), (.int nd), (.ref aP)])) := q14.trans (by
          show Steps p.tables e below (T13.setTop (mkF m 16 #[.val (.ref o0), .val (.int p1), .val (.int nd)] [(.ref aP)])) _
          refine XS.iloadN X13.here hx rfl (hb hby d5_16) rfl ?_
          show Steps p.tables e below (T13.setTop (mkF m 17 #[.val (.ref o0), .val (.int p1), .val (.int nd)] [(.int nd), (.ref aP)])) _
          refine XS.aloadN X13.here hx rfl (hb hby d5_17) rfl rfl ?_
          show Steps p.tables e below (T13.setTop (mkF m 18 #[.val (.ref o0), .val (.int p1), .val (.int nd)] [(.ref o0), (.int nd), (.ref aP)])) _
          exact Steps.refl _)
      obtain ⟨T16, X16, e16, st16⟩ := getF X13 hx hZ hown (host := "") (Or.inl (hw _ (List.mem_of_getElem? (i := 10) rfl))) Via.refl e13 F_o0_parent (g := (mkF m 18 #[.val (.ref o0), .val (.int p1), .val (.int nd)] [(.ref o0), (.int nd), (.ref aP)])) rfl rfl (hb hby d5_18)
      have q17 : Steps p.tables e below (T0.setTop (mkF m 2 #[.val (.ref o0), .val (.int p1), .val (.int nd)] [])) (T16.setTop (mkF m 21 #[.val (.ref o0), .val (.int p1), .val (.int nd)] [(.ref aP), (.int nd), (.ref aP)])) := q15.trans (st16 _ (Steps.refl _))
      have q18 : Steps p.tables e below (T0.setTop (mkF m 2 #[.val (.ref o0), .val (.int p1), .val (.int nd)] [])) (T16.setTop (mkF m 22 #[.val (.ref o0), .val (.int p1), .val (.int nd)] [(.ref o0), (.ref aP), (.int nd), (.ref aP)])) := q17.trans (by
          show Steps p.tables e below (T16.setTop (mkF m 21 #[.val (.ref o0), .val (.int p1), .val (.int nd)] [(.ref aP), (.int nd), (.ref aP)])) _
          refine XS.aloadN X16.here hx rfl (hb hby d5_21) rfl rfl ?_
          show Steps p.tables e below (T16.setTop (mkF m 22 #[.val (.ref o0), .val (.int p1), .val (.int nd)] [(.ref o0), (.ref aP), (.int nd), (.ref aP)])) _
          exact Steps.refl _)
      obtain ⟨T19, X19, e19, st19⟩ := getF X16 hx hZ hown (host := "") (Or.inl (hw _ (List.mem_of_getElem? (i := 10) rfl))) Via.refl e16 F_o0_parent (g := (mkF m 22 #[.val (.ref o0), .val (.int p1), .val (.int nd)] [(.ref o0), (.ref aP), (.int nd), (.ref aP)])) rfl rfl (hb hby d5_22)
      have q20 : Steps p.tables e below (T0.setTop (mkF m 2 #[.val (.ref o0), .val (.int p1), .val (.int nd)] [])) (T19.setTop (mkF m 25 #[.val (.ref o0), .val (.int p1), .val (.int nd)] [(.ref aP), (.ref aP), (.int nd), (.ref aP)])) := q18.trans (st19 _ (Steps.refl _))
      have q21 : Steps p.tables e below (T0.setTop (mkF m 2 #[.val (.ref o0), .val (.int p1), .val (.int nd)] [])) (T19.setTop (mkF m 26 #[.val (.ref o0), .val (.int p1), .val (.int nd)] [(.int nd), (.ref aP), (.ref aP), (.int nd), (.ref aP)])) := q20.trans (by
          show Steps p.tables e below (T19.setTop (mkF m 25 #[.val (.ref o0), .val (.int p1), .val (.int nd)] [(.ref aP), (.ref aP), (.int nd), (.ref aP)])) _
          refine XS.iloadN X19.here hx rfl (hb hby d5_25) rfl ?_
          show Steps p.tables e below (T19.setTop (mkF m 26 #[.val (.ref o0), .val (.int p1), .val (.int nd)] [(.int nd), (.ref aP), (.ref aP), (.int nd), (.ref aP)])) _
          exact Steps.refl _)
      obtain ⟨v22, hv22, hM⟩ := Option.bind_eq_some_iff.mp hM
      have q23 : Steps p.tables e below (T0.setTop (mkF m 2 #[.val (.ref o0), .val (.int p1), .val (.int nd)] [])) (T19.setTop (mkF m 27 #[.val (.ref o0), .val (.int p1), .val (.int nd)] [(.int v22), (.ref aP), (.int nd), (.ref aP)])) := q21.trans (Own.ldO X19 hx hZ e19 I_aP hv22 (g := (mkF m 26 #[.val (.ref o0), .val (.int p1), .val (.int nd)] [(.int nd), (.ref aP), (.ref aP), (.int nd), (.ref aP)])) rfl rfl (hb hby d5_26) _ (Steps.refl _))
      obtain ⟨v24, hv24, hM⟩ := Option.bind_eq_some_iff.mp hM
      have q25 : Steps p.tables e below (T0.setTop (mkF m 2 #[.val (.ref o0), .val (.int p1), .val (.int nd)] [])) (T19.setTop (mkF m 28 #[.val (.ref o0), .val (.int p1), .val (.int nd)] [(.int v24), (.int nd), (.ref aP)])) := q23.trans (Own.ldO X19 hx hZ e19 I_aP hv24 (g := (mkF m 27 #[.val (.ref o0), .val (.int p1), .val (.int nd)] [(.int v22), (.ref aP), (.int nd), (.ref aP)])) rfl rfl (hb hby d5_27) _ (Steps.refl _))
      obtain ⟨y26, hy26, hM⟩ := Option.bind_eq_some_iff.mp hM
      obtain ⟨T27, h27, X27, e27, W27, J27, st27⟩ := Own.stO X19 hx hZ e19 I_aP hy26 (g := (mkF m 28 #[.val (.ref o0), .val (.int p1), .val (.int nd)] [(.int v24), (.int nd), (.ref aP)])) rfl rfl (hb hby d5_28)
      have N27 := Fr.snoc X27 N0 ge_aP
      have IaS_27 := I_aS.other W27 (Ne.symm ne_aP_aS)
      have IaQ_27 := I_aQ.other W27 (Ne.symm ne_aP_aQ)
      have Xo0_27 := E_o0.wr W27
      have Fo0_parent_27 := F_o0_parent.other W27 (Or.inl ne_o0_aP)
      have Fo0_size_27 := F_o0_size.other W27 (Or.inl ne_o0_aP)
      have Fo0_parallelism_27 := F_o0_parallelism.other W27 (Or.inl ne_o0_aP)
      have Z27 : n0 ≤ h27.size := Own.size_wr W27 Z0
      have K27 : Keep h0 h27 [aP] := K0.wr W27 (Or.inl (List.mem_of_getElem? (i := 0) rfl))
      have q28 : Steps p.tables e below (T0.setTop (mkF m 2 #[.val (.ref o0), .val (.int p1), .val (.int nd)] [])) (T27.setTop (mkF m 29 #[.val (.ref o0), .val (.int p1), .val (.int nd)] [])) := q25.trans (st27 _ (Steps.refl _))
      have q29 : Steps p.tables e below (T0.setTop (mkF m 2 #[.val (.ref o0), .val (.int p1), .val (.int nd)] [])) (T27.setTop (mkF m 30 #[.val (.ref o0), .val (.int p1), .val (.int nd)] [(.ref o0)])) := q28.trans (by
          show Steps p.tables e below (T27.setTop (mkF m 29 #[.val (.ref o0), .val (.int p1), .val (.int nd)] [])) _
          refine XS.aloadN X27.here hx rfl (hb hby d5_29) rfl rfl ?_
          show Steps p.tables e below (T27.setTop (mkF m 30 #[.val (.ref o0), .val (.int p1), .val (.int nd)] [(.ref o0)])) _
          exact Steps.refl _)
      obtain ⟨T30, X30, e30, st30⟩ := getF X27 hx hZ hown (host := "") (Or.inl (hw _ (List.mem_of_getElem? (i := 10) rfl))) Via.refl e27 Fo0_parent_27 (g := (mkF m 30 #[.val (.ref o0), .val (.int p1), .val (.int nd)] [(.ref o0)])) rfl rfl (hb hby d5_30)
      have q31 : Steps p.tables e below (T0.setTop (mkF m 2 #[.val (.ref o0), .val (.int p1), .val (.int nd)] [])) (T30.setTop (mkF m 33 #[.val (.ref o0), .val (.int p1), .val (.int nd)] [(.ref aP)])) := q29.trans (st30 _ (Steps.refl _))
      have q32 : Steps p.tables e below (T0.setTop (mkF m 2 #[.val (.ref o0), .val (.int p1), .val (.int nd)] [])) (T30.setTop (mkF m 34 #[.val (.ref o0), .val (.int p1), .val (.int nd)] [(.int nd), (.ref aP)])) := q31.trans (by
          show Steps p.tables e below (T30.setTop (mkF m 33 #[.val (.ref o0), .val (.int p1), .val (.int nd)] [(.ref aP)])) _
          refine XS.iloadN X30.here hx rfl (hb hby d5_33) rfl ?_
          show Steps p.tables e below (T30.setTop (mkF m 34 #[.val (.ref o0), .val (.int p1), .val (.int nd)] [(.int nd), (.ref aP)])) _
          exact Steps.refl _)
      obtain ⟨v33, hv33, hM⟩ := Option.bind_eq_some_iff.mp hM
      have q34 : Steps p.tables e below (T0.setTop (mkF m 2 #[.val (.ref o0), .val (.int p1), .val (.int nd)] [])) (T30.setTop (mkF m 35 #[.val (.ref o0), .val (.int p1), .val (.int nd)] [(.int v33)])) := q32.trans (Own.ldO X30 hx hZ e30 J27 hv33 (g := (mkF m 34 #[.val (.ref o0), .val (.int p1), .val (.int nd)] [(.int nd), (.ref aP)])) rfl rfl (hb hby d5_34) _ (Steps.refl _))
      have q35 : Steps p.tables e below (T0.setTop (mkF m 2 #[.val (.ref o0), .val (.int p1), .val (.int nd)] [])) (T30.setTop (mkF m 2 #[.val (.ref o0), .val (.int p1), .val (.int v33)] [])) := q34.trans (by
          show Steps p.tables e below (T30.setTop (mkF m 35 #[.val (.ref o0), .val (.int p1), .val (.int nd)] [(.int v33)])) _
          refine XS.istoreN X30.here hx rfl (hb hby d5_35) rfl (l' := #[.val (.ref o0), .val (.int p1), .val (.int v33)]) rfl ?_
          show Steps p.tables e below (T30.setTop (mkF m 36 #[.val (.ref o0), .val (.int p1), .val (.int v33)] [])) _
          refine XS.goto X30.here hx rfl (pc0 := 36) (pc' := 2) rfl (hb hby d5_36) (by decide) (by decide) ?_
          show Steps p.tables e below (T30.setTop (mkF m 2 #[.val (.ref o0), .val (.int p1), .val (.int v33)] [])) _
          exact Steps.refl _)
      obtain ⟨T', locs', h', X', e', N', Z', K', J0', q'⟩ := ih v33 y26  _ hM X30 e30 N27 Z27  Xo0_27 Fo0_parent_27 Fo0_size_27 Fo0_parallelism_27 J27 IaS_27 IaQ_27
      exact ⟨T', locs', h', X', e', N', Z', K27.trans K' (fun _ hx' => Or.inl hx'), J0', q35.trans q'⟩

theorem d5_0 : decode prog_35_method_6_code 0 = .ok (.iload_n 1, 1) := by decide +kernel
theorem d5_1 : decode prog_35_method_6_code 1 = .ok (.istore_n 2, 1) := by decide +kernel
theorem d5_39 : decode prog_35_method_6_code 39 = .ok (.iload_n 2, 1) := by decide +kernel
theorem d5_40 : decode prog_35_method_6_code 40 = .ok (.ireturn, 1) := by decide +kernel
theorem pn_rmF : plainName "com/example/tideplan/tideplan/planner/ForwardGroups" = true := by first | (simp [plainName, overriddenIn]; done) | decide +kernel
theorem ef_rmF (m : MethodId) (o0 : Addr) (p1 : Int32) : entryFrame m #[(.ref o0), (.int p1)] 3 = mkF m 0 #[.val (.ref o0), .val (.int p1), .unset] [] := by first | (simp [entryFrame, mkF, argsToLocals, Value.category]; done) | rfl
def M_find (p1 : Int32) (xP : List Int32) (xS : List Int32) (xQ : List Int32) : Option (Int32 × List Int32) := (M_lpF 8 p1 xP).bind fun r2 => some (r2.1, r2.2)
def Q_rmF (Z : State) (o0 : Addr) (p1 : Int32) (aP : Addr) (aS : Addr) (aQ : Addr) (xP : List Int32) (xS : List Int32) (xQ : List Int32) (out : Int32 × List Int32) (h0 : Heap) (n0 : Nat) (v : Option Value) (h : Heap) (L : List Loc) : Prop := v = some (.int out.1) ∧ Fr n0 L ∧ Keep h0 h [aP] ∧ Own.IA Z h aP out.2
set_option maxRecDepth 65536 in
set_option maxHeartbeats 40000000 in
theorem rmF (l : Launch) (Z : State) (a0 : Array Value) (hw : ∀ d ∈ tables_1, d.before a0 Z = true) (ws : List Jvm.Cond) (o0 : Addr) (p1 : Int32) (aP : Addr) (aS : Addr) (aQ : Addr) (xP : List Int32) (xS : List Int32) (xQ : List Int32) (out : Int32 × List Int32) (h0 : Heap) (n0 : Nat) (Z0 : n0 ≤ h0.size) (E_o0 : Exa Z h0 o0 "com/example/tideplan/tideplan/planner/ForwardGroups") (F_o0_parent : Fld Z h0 o0 "com/example/tideplan/tideplan/planner/ForwardGroups" "parent" "[I" (.ref aP)) (F_o0_size : Fld Z h0 o0 "com/example/tideplan/tideplan/planner/ForwardGroups" "size" "[I" (.ref aS)) (F_o0_parallelism : Fld Z h0 o0 "com/example/tideplan/tideplan/planner/ForwardGroups" "parallelism" "[I" (.ref aQ)) (I_aP : Own.IA Z h0 aP xP) (I_aS : Own.IA Z h0 aS xS) (I_aQ : Own.IA Z h0 aQ xQ) (ge_aP : n0 ≤ aP) (ge_aS : n0 ≤ aS) (ge_aQ : n0 ≤ aQ) (ne_aP_aS : aP ≠ aS) (ne_aP_aQ : aP ≠ aQ) (ne_aS_aQ : aS ≠ aQ) (ne_o0_aP : o0 ≠ aP) (ne_o0_aS : o0 ≠ aS) (ne_o0_aQ : o0 ≠ aQ) (hM : M_find p1 xP xS xQ = some out) :
    MetFree l (⟨"com/example/tideplan/tideplan/planner/ForwardGroups", "find", "(I)I"⟩ : MethodName) (head1 (Jvm.Cond.code (⟨"com/example/tideplan/tideplan/planner/ForwardGroups", "find", "(I)I"⟩ : MethodName) prog_35_method_6_code 3 (some .int) :: ws) ({ frames := 0, cells := 0, slots := 0, locals := 0 } : Room)) (fun a U => a = #[(.ref o0), (.int p1)] ∧ Z.Warmed39 U.vm ∧ U.heap = h0) (fun _ _ _ _ _ => True) (fun _ U o U' => ∃ v L, o = .returned v ∧ Q_rmF Z o0 p1 aP aS aQ xP xS xQ out h0 n0 v U'.heap L ∧ FrameEnd U o U' L ({ frames := 0, cells := 0, slots := 0, locals := 0 } : Room).cells ({ frames := 0, cells := 0, slots := 0, locals := 0 } : Room).slots) := by
  refine MetFree.of_bodySF (plainFor_of_name pn_rmF) hisR ?_
  intro p e s m args below meth c s₁ Bd hml0 hP hK
  obtain ⟨rfl, hZ, hh⟩ := hP
  have hx := Bd.exec
  have hby := Bd.bytes
  have hml : c.maxLocals = 3 := hml0
  have hown : s.vm.findClass "com/example/tideplan/tideplan/planner/ForwardGroups" = some m.cls := findClass_of_methodNamed Bd.named
  have hnm := (name_of_methodNamed Bd.named Bd.method).1
  have X0 : Stand p l e ({ frames := 0, cells := 0, slots := 0, locals := 0 } : Room) s m #[(.ref o0), (.int p1)] below meth c s₁ [] 0 0 := Stand.of_body Bd
  have e0 : s₁.heap = h0 := by rw [← hh, Bd.state]; rfl
  have N0 := Fr.nil n0
  have q0 : Steps p.tables e below (s₁.setTop (entryFrame m #[(.ref o0), (.int p1)] 3)) (s₁.setTop (mkF m 0 #[.val (.ref o0), .val (.int p1), .unset] [])) := castTop (ef_rmF m o0 p1) (Steps.refl _)
  unfold M_find at hM
  have K0 : Keep h0 h0 [aP] := Keep.refl _ _
  have q1 : Steps p.tables e below (s₁.setTop (entryFrame m #[(.ref o0), (.int p1)] 3)) (s₁.setTop (mkF m 2 #[.val (.ref o0), .val (.int p1), .val (.int p1)] [])) := q0.trans (by
      show Steps p.tables e below (s₁.setTop (mkF m 0 #[.val (.ref o0), .val (.int p1), .unset] [])) _
      refine XS.iloadN X0.here hx rfl (hb hby d5_0) rfl ?_
      show Steps p.tables e below (s₁.setTop (mkF m 1 #[.val (.ref o0), .val (.int p1), .unset] [(.int p1)])) _
      refine XS.istoreN X0.here hx rfl (hb hby d5_1) rfl (l' := #[.val (.ref o0), .val (.int p1), .val (.int p1)]) rfl ?_
      show Steps p.tables e below (s₁.setTop (mkF m 2 #[.val (.ref o0), .val (.int p1), .val (.int p1)] [])) _
      exact Steps.refl _)
  obtain ⟨r2, hr2, hM⟩ := Option.bind_eq_some_iff.mp hM
  obtain ⟨T3, L3, h3, X3, e3, N3, Zq3, K3, J3_0, ql3⟩ := lpF hx hZ hw hby hml hown o0 aP aS aQ p1 xS xQ  ge_aP ge_aS ge_aQ ne_aP_aS ne_aP_aQ ne_aS_aQ ne_o0_aP ne_o0_aS ne_o0_aQ 8 p1 xP  _ hr2 X0 e0 N0 Z0  E_o0 F_o0_parent F_o0_size F_o0_parallelism I_aP I_aS I_aQ
  have IaS_3 := I_aS.keep K3 (ninS (Ne.symm ne_aP_aS) nin0)
  have IaQ_3 := I_aQ.keep K3 (ninS (Ne.symm ne_aP_aQ) nin0)
  have Xo0_3 := E_o0.keep K3
  have Fo0_parent_3 := F_o0_parent.keep K3 (ninS ne_o0_aP nin0)
  have Fo0_size_3 := F_o0_size.keep K3 (ninS ne_o0_aP nin0)
  have Fo0_parallelism_3 := F_o0_parallelism.keep K3 (ninS ne_o0_aP nin0)
  have Z3 : n0 ≤ h3.size := Nat.le_trans Z0 K3.1
  have KK3 : Keep h0 h3 [aP] := K0.trans K3 (allS (Or.inl (List.mem_of_getElem? (i := 0) rfl)) all0)
  have q4 : Steps p.tables e below (s₁.setTop (entryFrame m #[(.ref o0), (.int p1)] 3)) (T3.setTop (mkF m 39 #[.val (.ref o0), .val (.int p1), .val (.int r2.1)] [])) := q1.trans ql3
  have q5 : Steps p.tables e below (s₁.setTop (entryFrame m #[(.ref o0), (.int p1)] 3)) (T3.setTop (mkF m 40 #[.val (.ref o0), .val (.int p1), .val (.int r2.1)] [(.int r2.1)])) := q4.trans (by
      show Steps p.tables e below (T3.setTop (mkF m 39 #[.val (.ref o0), .val (.int p1), .val (.int r2.1)] [])) _
      refine XS.iloadN X3.here hx rfl (hb hby d5_39) rfl ?_
      show Steps p.tables e below (T3.setTop (mkF m 40 #[.val (.ref o0), .val (.int p1), .val (.int r2.1)] [(.int r2.1)])) _
      exact Steps.refl _)
  obtain rfl := Option.some.inj hM
  obtain ⟨fs, hr, hrun, hended, hW, hsame⟩ := X3.leave (v := some (.int r2.1)) (fun h => by rw [Bd.returns] at h; cases h)
  refine ⟨_, _, q5.trans ?_, hrun, hended, _, _, rfl, ?_, ⟨_, rfl⟩, hW, hsame.mono (by decide) (by decide)⟩
  · exact retI X3 hx Bd.returns (hb hby d5_40) hr
  · show Q_rmF Z o0 p1 aP aS aQ xP xS xQ _ h0 n0 _ T3.heap _
    rw [e3]
    exact ⟨rfl, N3, KK3, J3_0⟩

theorem d6_0 : decode prog_35_method_3_code 0 = .ok (.aload_n 0, 1) := by decide +kernel
theorem d6_1 : decode prog_35_method_3_code 1 = .ok (.getfield 16, 3) := by decide +kernel
theorem d6_4 : decode prog_35_method_3_code 4 = .ok (.aload_n 0, 1) := by decide +kernel
theorem d6_5 : decode prog_35_method_3_code 5 = .ok (.iload_n 1, 1) := by decide +kernel
theorem d6_6 : decode prog_35_method_3_code 6 = .ok (.invokevirtual 96, 3) := by decide +kernel
theorem d6_9 : decode prog_35_method_3_code 9 = .ok (.iaload, 1) := by decide +kernel
theorem d6_10 : decode prog_35_method_3_code 10 = .ok (.ireturn, 1) := by decide +kernel
theorem pd_0 : parseMethodDescriptor "(I)I" = some ⟨[.int], some .int⟩ := by decide +kernel
theorem pn_rmP : plainName "com/example/tideplan/tideplan/planner/ForwardGroups" = true := by first | (simp [plainName, overriddenIn]; done) | decide +kernel
theorem ef_rmP (m : MethodId) (o0 : Addr) (p1 : Int32) : entryFrame m #[(.ref o0), (.int p1)] 2 = mkF m 0 #[.val (.ref o0), .val (.int p1)] [] := by first | (simp [entryFrame, mkF, argsToLocals, Value.category]; done) | rfl
def M_par (p1 : Int32) (xP : List Int32) (xS : List Int32) (xQ : List Int32) : Option (Int32 × List Int32) := (M_find p1 xP xS xQ).bind fun r5 => (Own.rd xQ r5.1).bind fun v8 => some (v8, r5.2)
def Q_rmP (Z : State) (o0 : Addr) (p1 : Int32) (aP : Addr) (aS : Addr) (aQ : Addr) (xP : List Int32) (xS : List Int32) (xQ : List Int32) (out : Int32 × List Int32) (h0 : Heap) (n0 : Nat) (v : Option Value) (h : Heap) (L : List Loc) : Prop := v = some (.int out.1) ∧ Fr n0 L ∧ Keep h0 h [aP] ∧ Own.IA Z h aP out.2
set_option maxRecDepth 65536 in
set_option maxHeartbeats 40000000 in
theorem rmP (l : Launch) (Z : State) (a0 : Array Value) (hw : ∀ d ∈ tables_1, d.before a0 Z = true) (ws : List Jvm.Cond) (o0 : Addr) (p1 : Int32) (aP : Addr) (aS : Addr) (aQ : Addr) (xP : List Int32) (xS : List Int32) (xQ : List Int32) (out : Int32 × List Int32) (h0 : Heap) (n0 : Nat) (Z0 : n0 ≤ h0.size) (E_o0 : Exa Z h0 o0 "com/example/tideplan/tideplan/planner/ForwardGroups") (F_o0_parent : Fld Z h0 o0 "com/example/tideplan/tideplan/planner/ForwardGroups" "parent" "[I" (.ref aP)) (F_o0_size : Fld Z h0 o0 "com/example/tideplan/tideplan/planner/ForwardGroups" "size" "[I" (.ref aS)) (F_o0_parallelism : Fld Z h0 o0 "com/example/tideplan/tideplan/planner/ForwardGroups" "parallelism" "[I" (.ref aQ)) (I_aP : Own.IA Z h0 aP xP) (I_aS : Own.IA Z h0 aS xS) (I_aQ : Own.IA Z h0 aQ xQ) (ge_aP : n0 ≤ aP) (ge_aS : n0 ≤ aS) (ge_aQ : n0 ≤ aQ) (ne_aP_aS : aP ≠ aS) (ne_aP_aQ : aP ≠ aQ) (ne_aS_aQ : aS ≠ aQ) (ne_o0_aP : o0 ≠ aP) (ne_o0_aS : o0 ≠ aS) (ne_o0_aQ : o0 ≠ aQ) (hM : M_par p1 xP xS xQ = some out) :
    MetFree l (⟨"com/example/tideplan/tideplan/planner/ForwardGroups", "parallelism", "(I)I"⟩ : MethodName) (head1 (Jvm.Cond.code (⟨"com/example/tideplan/tideplan/planner/ForwardGroups", "parallelism", "(I)I"⟩ : MethodName) prog_35_method_3_code 2 (some .int) :: ws) ({ frames := 1, cells := 0, slots := 0, locals := 15 } : Room)) (fun a U => a = #[(.ref o0), (.int p1)] ∧ Z.Warmed39 U.vm ∧ U.heap = h0) (fun _ _ _ _ _ => True) (fun _ U o U' => ∃ v L, o = .returned v ∧ Q_rmP Z o0 p1 aP aS aQ xP xS xQ out h0 n0 v U'.heap L ∧ FrameEnd U o U' L ({ frames := 1, cells := 0, slots := 0, locals := 15 } : Room).cells ({ frames := 1, cells := 0, slots := 0, locals := 15 } : Room).slots) := by
  refine MetFree.of_bodySF (plainFor_of_name pn_rmP) hisR ?_
  intro p e s m args below meth c s₁ Bd hml0 hP hK
  obtain ⟨rfl, hZ, hh⟩ := hP
  have hx := Bd.exec
  have hby := Bd.bytes
  have hml : c.maxLocals = 2 := hml0
  have hown : s.vm.findClass "com/example/tideplan/tideplan/planner/ForwardGroups" = some m.cls := findClass_of_methodNamed Bd.named
  have hnm := (name_of_methodNamed Bd.named Bd.method).1
  have X0 : Stand p l e ({ frames := 1, cells := 0, slots := 0, locals := 15 } : Room) s m #[(.ref o0), (.int p1)] below meth c s₁ [] 0 0 := Stand.of_body Bd
  have e0 : s₁.heap = h0 := by rw [← hh, Bd.state]; rfl
  have N0 := Fr.nil n0
  have q0 : Steps p.tables e below (s₁.setTop (entryFrame m #[(.ref o0), (.int p1)] 2)) (s₁.setTop (mkF m 0 #[.val (.ref o0), .val (.int p1)] [])) := castTop (ef_rmP m o0 p1) (Steps.refl _)
  unfold M_par at hM
  have K0 : Keep h0 h0 [aP] := Keep.refl _ _
  have q1 : Steps p.tables e below (s₁.setTop (entryFrame m #[(.ref o0), (.int p1)] 2)) (s₁.setTop (mkF m 1 #[.val (.ref o0), .val (.int p1)] [(.ref o0)])) := q0.trans (by
      show Steps p.tables e below (s₁.setTop (mkF m 0 #[.val (.ref o0), .val (.int p1)] [])) _
      refine XS.aloadN X0.here hx rfl (hb hby d6_0) rfl rfl ?_
      show Steps p.tables e below (s₁.setTop (mkF m 1 #[.val (.ref o0), .val (.int p1)] [(.ref o0)])) _
      exact Steps.refl _)
  obtain ⟨T2, X2, e2, st2⟩ := getF X0 hx hZ hown (host := "") (Or.inl (hw _ (List.mem_of_getElem? (i := 14) rfl))) Via.refl e0 F_o0_parallelism (g := (mkF m 1 #[.val (.ref o0), .val (.int p1)] [(.ref o0)])) rfl rfl (hb hby d6_1)
  have q3 : Steps p.tables e below (s₁.setTop (entryFrame m #[(.ref o0), (.int p1)] 2)) (T2.setTop (mkF m 4 #[.val (.ref o0), .val (.int p1)] [(.ref aQ)])) := q1.trans (st2 _ (Steps.refl _))
  have q4 : Steps p.tables e below (s₁.setTop (entryFrame m #[(.ref o0), (.int p1)] 2)) (T2.setTop (mkF m 6 #[.val (.ref o0), .val (.int p1)] [(.int p1), (.ref o0), (.ref aQ)])) := q3.trans (by
      show Steps p.tables e below (T2.setTop (mkF m 4 #[.val (.ref o0), .val (.int p1)] [(.ref aQ)])) _
      refine XS.aloadN X2.here hx rfl (hb hby d6_4) rfl rfl ?_
      show Steps p.tables e below (T2.setTop (mkF m 5 #[.val (.ref o0), .val (.int p1)] [(.ref o0), (.ref aQ)])) _
      refine XS.iloadN X2.here hx rfl (hb hby d6_5) rfl ?_
      show Steps p.tables e below (T2.setTop (mkF m 6 #[.val (.ref o0), .val (.int p1)] [(.int p1), (.ref o0), (.ref aQ)])) _
      exact Steps.refl _)
  obtain ⟨r5, hr5, hM⟩ := Option.bind_eq_some_iff.mp hM
  obtain ⟨cq6, q6, q6'⟩ := E_o0.cell
  obtain ⟨_, _, ⟨T6, L6, k6, n6⟩, -, X6, ⟨Lc6, hQ6, l6, y6, z6⟩, st6⟩ := X2.privateBack hx (y := (⟨"com/example/tideplan/tideplan/planner/ForwardGroups", "find", "(I)I"⟩ : MethodName)) hown (mvT hZ (hw _ (List.mem_of_getElem? (i := 25) rfl))) (mvT hZ (hw _ (List.mem_of_getElem? (i := 26) rfl))) (Jvm.Kit.selects_private (by decide) (mvT hZ (hw _ (List.mem_of_getElem? (i := 1) rfl))) (mvP hZ (hw _ (List.mem_of_getElem? (i := 27) rfl))) (mvT hZ (hw _ (List.mem_of_getElem? (i := 26) rfl)))) (Cond.privateMethod_at (mvP hZ (hw _ (List.mem_of_getElem? (i := 27) rfl)) (args := #[]))) (mvT hZ (hw _ (List.mem_of_getElem? (i := 28) rfl))) (by decide) (backOf (W := 1) (rmF l Z a0 hw [] o0 p1 aP aS aQ xP xS xQ r5 h0 n0 Z0 E_o0 F_o0_parent F_o0_size F_o0_parallelism I_aP I_aS I_aQ ge_aP ge_aS ge_aQ ne_aP_aS ne_aP_aQ ne_aS_aQ ne_o0_aP ne_o0_aS ne_o0_aQ hr5) hZ (hw _ (List.mem_of_getElem? (i := 28) rfl)) (hw _ (List.mem_of_getElem? (i := 2) rfl)) (by decide) (by decide)) (g := (mkF m 6 #[.val (.ref o0), .val (.int p1)] [(.int p1), (.ref o0), (.ref aQ)])) rfl (by rw [hml]; rfl) (Steps.refl _) (a := o0) (by rw [e2]; exact q6) q6' (argsL := [(.int p1)]) (rest := [(.ref aQ)]) (lenOf pd_0 rfl) rfl (by show 2 * 0 + _ ≤ _; exact Nat.le_of_eq rfl) (hb hby d6_6) (fun _ _ => ⟨rfl, e2, (by decide : 0 + 0 ≤ _), (by decide : 0 + 0 ≤ _)⟩)
  dsimp only [Pt.U, Pt.locs, Pt.cells, Pt.slots] at X6 l6 y6 z6 st6 hQ6
  subst l6 y6 z6
  obtain ⟨rfl, N6q, K6, J6_0⟩ := hQ6
  have N6 := Fr.app N0 N6q
  have IaS_6 := I_aS.keep K6 (ninS (Ne.symm ne_aP_aS) nin0)
  have IaQ_6 := I_aQ.keep K6 (ninS (Ne.symm ne_aP_aQ) nin0)
  have Xo0_6 := E_o0.keep K6
  have Fo0_parent_6 := F_o0_parent.keep K6 (ninS ne_o0_aP nin0)
  have Fo0_size_6 := F_o0_size.keep K6 (ninS ne_o0_aP nin0)
  have Fo0_parallelism_6 := F_o0_parallelism.keep K6 (ninS ne_o0_aP nin0)
  have Z6 : n0 ≤ T6.heap.size := Nat.le_trans Z0 K6.1
  have KK6 : Keep h0 T6.heap [aP] := K0.trans K6 (allS (Or.inl (List.mem_of_getElem? (i := 0) rfl)) all0)
  have q7 : Steps p.tables e below (s₁.setTop (entryFrame m #[(.ref o0), (.int p1)] 2)) (T6.setTop (mkF m 9 #[.val (.ref o0), .val (.int p1)] [(.int r5.1), (.ref aQ)])) := q4.trans (st6)
  obtain ⟨v8, hv8, hM⟩ := Option.bind_eq_some_iff.mp hM
  have q9 : Steps p.tables e below (s₁.setTop (entryFrame m #[(.ref o0), (.int p1)] 2)) (T6.setTop (mkF m 10 #[.val (.ref o0), .val (.int p1)] [(.int v8)])) := q7.trans (Own.ldO X6 hx hZ rfl IaQ_6 hv8 (g := (mkF m 9 #[.val (.ref o0), .val (.int p1)] [(.int r5.1), (.ref aQ)])) rfl rfl (hb hby d6_9) _ (Steps.refl _))
  obtain rfl := Option.some.inj hM
  obtain ⟨fs, hr, hrun, hended, hW, hsame⟩ := X6.leave (v := some (.int v8)) (fun h => by rw [Bd.returns] at h; cases h)
  refine ⟨_, _, q9.trans ?_, hrun, hended, _, _, rfl, ?_, ⟨_, rfl⟩, hW, hsame.mono (by decide) (by decide)⟩
  · exact retI X6 hx Bd.returns (hb hby d6_10) hr
  · show Q_rmP Z o0 p1 aP aS aQ xP xS xQ _ h0 n0 _ T6.heap _
    exact ⟨rfl, N6, KK6, J6_0⟩

theorem d7_0 : decode prog_35_method_4_code 0 = .ok (.aload_n 0, 1) := by decide +kernel
theorem d7_1 : decode prog_35_method_4_code 1 = .ok (.iload_n 1, 1) := by decide +kernel
theorem d7_2 : decode prog_35_method_4_code 2 = .ok (.invokevirtual 96, 3) := by decide +kernel
theorem d7_5 : decode prog_35_method_4_code 5 = .ok (.istore_n 3, 1) := by decide +kernel
theorem d7_6 : decode prog_35_method_4_code 6 = .ok (.aload_n 0, 1) := by decide +kernel
theorem d7_7 : decode prog_35_method_4_code 7 = .ok (.getfield 16, 3) := by decide +kernel
theorem d7_10 : decode prog_35_method_4_code 10 = .ok (.iload_n 3, 1) := by decide +kernel
theorem d7_11 : decode prog_35_method_4_code 11 = .ok (.iaload, 1) := by decide +kernel
theorem d7_12 : decode prog_35_method_4_code 12 = .ok (.istore 4, 2) := by decide +kernel
theorem d7_14 : decode prog_35_method_4_code 14 = .ok (.iload 4, 2) := by decide +kernel
theorem d7_16 : decode prog_35_method_4_code 16 = .ok (.iconst (-1), 1) := by decide +kernel
theorem d7_17 : decode prog_35_method_4_code 17 = .ok (.if_icmp .eq 26, 3) := by decide +kernel
theorem d7_20 : decode prog_35_method_4_code 20 = .ok (.iload 4, 2) := by decide +kernel
theorem d7_22 : decode prog_35_method_4_code 22 = .ok (.iload_n 2, 1) := by decide +kernel
theorem d7_23 : decode prog_35_method_4_code 23 = .ok (.if_icmp .eq 20, 3) := by decide +kernel
theorem d7_43 : decode prog_35_method_4_code 43 = .ok (.aload_n 0, 1) := by decide +kernel
theorem d7_44 : decode prog_35_method_4_code 44 = .ok (.getfield 16, 3) := by decide +kernel
theorem d7_47 : decode prog_35_method_4_code 47 = .ok (.iload_n 3, 1) := by decide +kernel
theorem d7_48 : decode prog_35_method_4_code 48 = .ok (.iload_n 2, 1) := by decide +kernel
theorem d7_49 : decode prog_35_method_4_code 49 = .ok (.iastore, 1) := by decide +kernel
theorem d7_50 : decode prog_35_method_4_code 50 = .ok (.return_, 1) := by decide +kernel
theorem pn_rmS : plainName "com/example/tideplan/tideplan/planner/ForwardGroups" = true := by first | (simp [plainName, overriddenIn]; done) | decide +kernel
theorem ef_rmS (m : MethodId) (o0 : Addr) (p1 : Int32) (p2 : Int32) : entryFrame m #[(.ref o0), (.int p1), (.int p2)] 5 = mkF m 0 #[.val (.ref o0), .val (.int p1), .val (.int p2), .unset, .unset] [] := by first | (simp [entryFrame, mkF, argsToLocals, Value.category]; done) | rfl
def M_set (p1 : Int32) (p2 : Int32) (xP : List Int32) (xS : List Int32) (xQ : List Int32) : Option (List Int32 × List Int32) := (M_find p1 xP xS xQ).bind fun r2 => (Own.rd xQ r2.1).bind fun v9 => (if v9 = (-1 : Int32) then (Own.wt xQ r2.1 p2).bind fun y18 => some (r2.2, y18) else (if v9 = p2 then (Own.wt xQ r2.1 p2).bind fun y29 => some (r2.2, y29) else none))
def Q_rmS (Z : State) (o0 : Addr) (p1 : Int32) (p2 : Int32) (aP : Addr) (aS : Addr) (aQ : Addr) (xP : List Int32) (xS : List Int32) (xQ : List Int32) (out : List Int32 × List Int32) (h0 : Heap) (n0 : Nat) (v : Option Value) (h : Heap) (L : List Loc) : Prop := v = none ∧ Fr n0 L ∧ Keep h0 h [aP, aQ] ∧ Own.IA Z h aP out.1 ∧ Own.IA Z h aQ out.2
set_option maxRecDepth 65536 in
set_option maxHeartbeats 40000000 in
theorem rmS (l : Launch) (Z : State) (a0 : Array Value) (hw : ∀ d ∈ tables_1, d.before a0 Z = true) (ws : List Jvm.Cond) (o0 : Addr) (p1 : Int32) (p2 : Int32) (aP : Addr) (aS : Addr) (aQ : Addr) (xP : List Int32) (xS : List Int32) (xQ : List Int32) (out : List Int32 × List Int32) (h0 : Heap) (n0 : Nat) (Z0 : n0 ≤ h0.size) (E_o0 : Exa Z h0 o0 "com/example/tideplan/tideplan/planner/ForwardGroups") (F_o0_parent : Fld Z h0 o0 "com/example/tideplan/tideplan/planner/ForwardGroups" "parent" "[I" (.ref aP)) (F_o0_size : Fld Z h0 o0 "com/example/tideplan/tideplan/planner/ForwardGroups" "size" "[I" (.ref aS)) (F_o0_parallelism : Fld Z h0 o0 "com/example/tideplan/tideplan/planner/ForwardGroups" "parallelism" "[I" (.ref aQ)) (I_aP : Own.IA Z h0 aP xP) (I_aS : Own.IA Z h0 aS xS) (I_aQ : Own.IA Z h0 aQ xQ) (ge_aP : n0 ≤ aP) (ge_aS : n0 ≤ aS) (ge_aQ : n0 ≤ aQ) (ne_aP_aS : aP ≠ aS) (ne_aP_aQ : aP ≠ aQ) (ne_aS_aQ : aS ≠ aQ) (ne_o0_aP : o0 ≠ aP) (ne_o0_aS : o0 ≠ aS) (ne_o0_aQ : o0 ≠ aQ) (hM : M_set p1 p2 xP xS xQ = some out) :
    MetFree l (⟨"com/example/tideplan/tideplan/planner/ForwardGroups", "setParallelism", "(II)V"⟩ : MethodName) (head1 (Jvm.Cond.code (⟨"com/example/tideplan/tideplan/planner/ForwardGroups", "setParallelism", "(II)V"⟩ : MethodName) prog_35_method_4_code 5 none :: ws) ({ frames := 1, cells := 0, slots := 0, locals := 14 } : Room)) (fun a U => a = #[(.ref o0), (.int p1), (.int p2)] ∧ Z.Warmed39 U.vm ∧ U.heap = h0) (fun _ _ _ _ _ => True) (fun _ U o U' => ∃ v L, o = .returned v ∧ Q_rmS Z o0 p1 p2 aP aS aQ xP xS xQ out h0 n0 v U'.heap L ∧ FrameEnd U o U' L ({ frames := 1, cells := 0, slots := 0, locals := 14 } : Room).cells ({ frames := 1, cells := 0, slots := 0, locals := 14 } : Room).slots) := by
  refine MetFree.of_bodySF (plainFor_of_name pn_rmS) hisR ?_
  intro p e s m args below meth c s₁ Bd hml0 hP hK
  obtain ⟨rfl, hZ, hh⟩ := hP
  have hx := Bd.exec
  have hby := Bd.bytes
  have hml : c.maxLocals = 5 := hml0
  have hown : s.vm.findClass "com/example/tideplan/tideplan/planner/ForwardGroups" = some m.cls := findClass_of_methodNamed Bd.named
  have hnm := (name_of_methodNamed Bd.named Bd.method).1
  have X0 : Stand p l e ({ frames := 1, cells := 0, slots := 0, locals := 14 } : Room) s m #[(.ref o0), (.int p1), (.int p2)] below meth c s₁ [] 0 0 := Stand.of_body Bd
  have e0 : s₁.heap = h0 := by rw [← hh, Bd.state]; rfl
  have N0 := Fr.nil n0
  have q0 : Steps p.tables e below (s₁.setTop (entryFrame m #[(.ref o0), (.int p1), (.int p2)] 5)) (s₁.setTop (mkF m 0 #[.val (.ref o0), .val (.int p1), .val (.int p2), .unset, .unset] [])) := castTop (ef_rmS m o0 p1 p2) (Steps.refl _)
  unfold M_set at hM
  have K0 : Keep h0 h0 [aP, aQ] := Keep.refl _ _
  have q1 : Steps p.tables e below (s₁.setTop (entryFrame m #[(.ref o0), (.int p1), (.int p2)] 5)) (s₁.setTop (mkF m 2 #[.val (.ref o0), .val (.int p1), .val (.int p2), .unset, .unset] [(.int p1), (.ref o0)])) := q0.trans (by
      show Steps p.tables e below (s₁.setTop (mkF m 0 #[.val (.ref o0), .val (.int p1), .val (.int p2), .unset, .unset] [])) _
      refine XS.aloadN X0.here hx rfl (hb hby d7_0) rfl rfl ?_
      show Steps p.tables e below (s₁.setTop (mkF m 1 #[.val (.ref o0), .val (.int p1), .val (.int p2), .unset, .unset] [(.ref o0)])) _
      refine XS.iloadN X0.here hx rfl (hb hby d7_1) rfl ?_
      show Steps p.tables e below (s₁.setTop (mkF m 2 #[.val (.ref o0), .val (.int p1), .val (.int p2), .unset, .unset] [(.int p1), (.ref o0)])) _
      exact Steps.refl _)
  obtain ⟨r2, hr2, hM⟩ := Option.bind_eq_some_iff.mp hM
  obtain ⟨cq3, q3, q3'⟩ := E_o0.cell
  obtain ⟨_, _, ⟨T3, L3, k3, n3⟩, -, X3, ⟨Lc3, hQ3, l3, y3, z3⟩, st3⟩ := X0.privateBack hx (y := (⟨"com/example/tideplan/tideplan/planner/ForwardGroups", "find", "(I)I"⟩ : MethodName)) hown (mvT hZ (hw _ (List.mem_of_getElem? (i := 25) rfl))) (mvT hZ (hw _ (List.mem_of_getElem? (i := 26) rfl))) (Jvm.Kit.selects_private (by decide) (mvT hZ (hw _ (List.mem_of_getElem? (i := 1) rfl))) (mvP hZ (hw _ (List.mem_of_getElem? (i := 27) rfl))) (mvT hZ (hw _ (List.mem_of_getElem? (i := 26) rfl)))) (Cond.privateMethod_at (mvP hZ (hw _ (List.mem_of_getElem? (i := 27) rfl)) (args := #[]))) (mvT hZ (hw _ (List.mem_of_getElem? (i := 28) rfl))) (by decide) (backOf (W := 0) (rmF l Z a0 hw [] o0 p1 aP aS aQ xP xS xQ r2 h0 n0 Z0 E_o0 F_o0_parent F_o0_size F_o0_parallelism I_aP I_aS I_aQ ge_aP ge_aS ge_aQ ne_aP_aS ne_aP_aQ ne_aS_aQ ne_o0_aP ne_o0_aS ne_o0_aQ hr2) hZ (hw _ (List.mem_of_getElem? (i := 28) rfl)) (hw _ (List.mem_of_getElem? (i := 2) rfl)) (by decide) (by decide)) (g := (mkF m 2 #[.val (.ref o0), .val (.int p1), .val (.int p2), .unset, .unset] [(.int p1), (.ref o0)])) rfl (by rw [hml]; rfl) (Steps.refl _) (a := o0) (by rw [e0]; exact q3) q3' (argsL := [(.int p1)]) (rest := []) (lenOf pd_0 rfl) rfl (by show 2 * 0 + _ ≤ _; exact Nat.le_of_eq rfl) (hb hby d7_2) (fun _ _ => ⟨rfl, e0, (by decide : 0 + 0 ≤ _), (by decide : 0 + 0 ≤ _)⟩)
  dsimp only [Pt.U, Pt.locs, Pt.cells, Pt.slots] at X3 l3 y3 z3 st3 hQ3
  subst l3 y3 z3
  obtain ⟨rfl, N3q, K3, J3_0⟩ := hQ3
  have N3 := Fr.app N0 N3q
  have IaS_3 := I_aS.keep K3 (ninS (Ne.symm ne_aP_aS) nin0)
  have IaQ_3 := I_aQ.keep K3 (ninS (Ne.symm ne_aP_aQ) nin0)
  have Xo0_3 := E_o0.keep K3
  have Fo0_parent_3 := F_o0_parent.keep K3 (ninS ne_o0_aP nin0)
  have Fo0_size_3 := F_o0_size.keep K3 (ninS ne_o0_aP nin0)
  have Fo0_parallelism_3 := F_o0_parallelism.keep K3 (ninS ne_o0_aP nin0)
  have Z3 : n0 ≤ T3.heap.size := Nat.le_trans Z0 K3.1
  have KK3 : Keep h0 T3.heap [aP, aQ] := K0.trans K3 (allS (Or.inl (List.mem_of_getElem? (i := 0) rfl)) all0)
  have q4 : Steps p.tables e below (s₁.setTop (entryFrame m #[(.ref o0), (.int p1), (.int p2)] 5)) (T3.setTop (mkF m 5 #[.val (.ref o0), .val (.int p1), .val (.int p2), .unset, .unset] [(.int r2.1)])) := q1.trans (st3)
  have q5 : Steps p.tables e below (s₁.setTop (entryFrame m #[(.ref o0), (.int p1), (.int p2)] 5)) (T3.setTop (mkF m 7 #[.val (.ref o0), .val (.int p1), .val (.int p2), .val (.int r2.1), .unset] [(.ref o0)])) := q4.trans (by
      show Steps p.tables e below (T3.setTop (mkF m 5 #[.val (.ref o0), .val (.int p1), .val (.int p2), .unset, .unset] [(.int r2.1)])) _
      refine XS.istoreN X3.here hx rfl (hb hby d7_5) rfl (l' := #[.val (.ref o0), .val (.int p1), .val (.int p2), .val (.int r2.1), .unset]) rfl ?_
      show Steps p.tables e below (T3.setTop (mkF m 6 #[.val (.ref o0), .val (.int p1), .val (.int p2), .val (.int r2.1), .unset] [])) _
      refine XS.aloadN X3.here hx rfl (hb hby d7_6) rfl rfl ?_
      show Steps p.tables e below (T3.setTop (mkF m 7 #[.val (.ref o0), .val (.int p1), .val (.int p2), .val (.int r2.1), .unset] [(.ref o0)])) _
      exact Steps.refl _)
  obtain ⟨T6, X6, e6, st6⟩ := getF X3 hx hZ hown (host := "") (Or.inl (hw _ (List.mem_of_getElem? (i := 14) rfl))) Via.refl rfl Fo0_parallelism_3 (g := (mkF m 7 #[.val (.ref o0), .val (.int p1), .val (.int p2), .val (.int r2.1), .unset] [(.ref o0)])) rfl rfl (hb hby d7_7)
  have q7 : Steps p.tables e below (s₁.setTop (entryFrame m #[(.ref o0), (.int p1), (.int p2)] 5)) (T6.setTop (mkF m 10 #[.val (.ref o0), .val (.int p1), .val (.int p2), .val (.int r2.1), .unset] [(.ref aQ)])) := q5.trans (st6 _ (Steps.refl _))
  have q8 : Steps p.tables e below (s₁.setTop (entryFrame m #[(.ref o0), (.int p1), (.int p2)] 5)) (T6.setTop (mkF m 11 #[.val (.ref o0), .val (.int p1), .val (.int p2), .val (.int r2.1), .unset] [(.int r2.1), (.ref aQ)])) := q7.trans (by
      show Steps p.tables e below (T6.setTop (mkF m 10 #[.val (.ref o0), .val (.int p1), .val (.int p2), .val (.int r2.1), .unset] [(.ref aQ)])) _
      refine XS.iloadN X6.here hx rfl (hb hby d7_10) rfl ?_
      show Steps p.tables e below (T6.setTop (mkF m 11 #[.val (.ref o0), .val (.int p1), .val (.int p2), .val (.int r2.1), .unset] [(.int r2.1), (.ref aQ)])) _
      exact Steps.refl _)
  obtain ⟨v9, hv9, hM⟩ := Option.bind_eq_some_iff.mp hM
  have q10 : Steps p.tables e below (s₁.setTop (entryFrame m #[(.ref o0), (.int p1), (.int p2)] 5)) (T6.setTop (mkF m 12 #[.val (.ref o0), .val (.int p1), .val (.int p2), .val (.int r2.1), .unset] [(.int v9)])) := q8.trans (Own.ldO X6 hx hZ e6 IaQ_3 hv9 (g := (mkF m 11 #[.val (.ref o0), .val (.int p1), .val (.int p2), .val (.int r2.1), .unset] [(.int r2.1), (.ref aQ)])) rfl rfl (hb hby d7_11) _ (Steps.refl _))
  have q11 : Steps p.tables e below (s₁.setTop (entryFrame m #[(.ref o0), (.int p1), (.int p2)] 5)) (T6.setTop (mkF m 17 #[.val (.ref o0), .val (.int p1), .val (.int p2), .val (.int r2.1), .val (.int v9)] [(.int (-1 : Int32)), (.int v9)])) := q10.trans (by
      show Steps p.tables e below (T6.setTop (mkF m 12 #[.val (.ref o0), .val (.int p1), .val (.int p2), .val (.int r2.1), .unset] [(.int v9)])) _
      refine XS.istore X6.here hx rfl (hb hby d7_12) rfl (l' := #[.val (.ref o0), .val (.int p1), .val (.int p2), .val (.int r2.1), .val (.int v9)]) rfl ?_
      show Steps p.tables e below (T6.setTop (mkF m 14 #[.val (.ref o0), .val (.int p1), .val (.int p2), .val (.int r2.1), .val (.int v9)] [])) _
      refine XS.iload X6.here hx rfl (hb hby d7_14) rfl ?_
      show Steps p.tables e below (T6.setTop (mkF m 16 #[.val (.ref o0), .val (.int p1), .val (.int p2), .val (.int r2.1), .val (.int v9)] [(.int v9)])) _
      refine XS.iconst X6.here hx rfl (hb hby d7_16) ?_
      show Steps p.tables e below (T6.setTop (mkF m 17 #[.val (.ref o0), .val (.int p1), .val (.int p2), .val (.int r2.1), .val (.int v9)] [(.int (-1 : Int32)), (.int v9)])) _
      exact Steps.refl _)
  by_cases hc12 : v9 = (-1 : Int32)
  · rw [if_pos hc12] at hM
    have q13 : Steps p.tables e below (s₁.setTop (entryFrame m #[(.ref o0), (.int p1), (.int p2)] 5)) (T6.setTop (mkF m 43 #[.val (.ref o0), .val (.int p1), .val (.int p2), .val (.int r2.1), .val (.int v9)] [])) := q11.trans (by
        show Steps p.tables e below (T6.setTop (mkF m 17 #[.val (.ref o0), .val (.int p1), .val (.int p2), .val (.int r2.1), .val (.int v9)] [(.int (-1 : Int32)), (.int v9)])) _
        refine XS.icmpYes X6.here hx rfl (pc0 := 17) (pc' := 43) rfl (hb hby d7_17) rfl (teq hc12).1 (by decide) (by decide) ?_
        show Steps p.tables e below (T6.setTop (mkF m 43 #[.val (.ref o0), .val (.int p1), .val (.int p2), .val (.int r2.1), .val (.int v9)] [])) _
        exact Steps.refl _)
    have q14 : Steps p.tables e below (s₁.setTop (entryFrame m #[(.ref o0), (.int p1), (.int p2)] 5)) (T6.setTop (mkF m 44 #[.val (.ref o0), .val (.int p1), .val (.int p2), .val (.int r2.1), .val (.int v9)] [(.ref o0)])) := q13.trans (by
        show Steps p.tables e below (T6.setTop (mkF m 43 #[.val (.ref o0), .val (.int p1), .val (.int p2), .val (.int r2.1), .val (.int v9)] [])) _
        refine XS.aloadN X6.here hx rfl (hb hby d7_43) rfl rfl ?_
        show Steps p.tables e below (T6.setTop (mkF m 44 #[.val (.ref o0), .val (.int p1), .val (.int p2), .val (.int r2.1), .val (.int v9)] [(.ref o0)])) _
        exact Steps.refl _)
    obtain ⟨T15, X15, e15, st15⟩ := getF X6 hx hZ hown (host := "") (Or.inl (hw _ (List.mem_of_getElem? (i := 14) rfl))) Via.refl e6 Fo0_parallelism_3 (g := (mkF m 44 #[.val (.ref o0), .val (.int p1), .val (.int p2), .val (.int r2.1), .val (.int v9)] [(.ref o0)])) rfl rfl (hb hby d7_44)
    have q16 : Steps p.tables e below (s₁.setTop (entryFrame m #[(.ref o0), (.int p1), (.int p2)] 5)) (T15.setTop (mkF m 47 #[.val (.ref o0), .val (.int p1), .val (.int p2), .val (.int r2.1), .val (.int v9)] [(.ref aQ)])) := q14.trans (st15 _ (Steps.refl _))
    have q17 : Steps p.tables e below (s₁.setTop (entryFrame m #[(.ref o0), (.int p1), (.int p2)] 5)) (T15.setTop (mkF m 49 #[.val (.ref o0), .val (.int p1), .val (.int p2), .val (.int r2.1), .val (.int v9)] [(.int p2), (.int r2.1), (.ref aQ)])) := q16.trans (by
        show Steps p.tables e below (T15.setTop (mkF m 47 #[.val (.ref o0), .val (.int p1), .val (.int p2), .val (.int r2.1), .val (.int v9)] [(.ref aQ)])) _
        refine XS.iloadN X15.here hx rfl (hb hby d7_47) rfl ?_
        show Steps p.tables e below (T15.setTop (mkF m 48 #[.val (.ref o0), .val (.int p1), .val (.int p2), .val (.int r2.1), .val (.int v9)] [(.int r2.1), (.ref aQ)])) _
        refine XS.iloadN X15.here hx rfl (hb hby d7_48) rfl ?_
        show Steps p.tables e below (T15.setTop (mkF m 49 #[.val (.ref o0), .val (.int p1), .val (.int p2), .val (.int r2.1), .val (.int v9)] [(.int p2), (.int r2.1), (.ref aQ)])) _
        exact Steps.refl _)
    obtain ⟨y18, hy18, hM⟩ := Option.bind_eq_some_iff.mp hM
    obtain ⟨T19, h19, X19, e19, W19, J19, st19⟩ := Own.stO X15 hx hZ e15 IaQ_3 hy18 (g := (mkF m 49 #[.val (.ref o0), .val (.int p1), .val (.int p2), .val (.int r2.1), .val (.int v9)] [(.int p2), (.int r2.1), (.ref aQ)])) rfl rfl (hb hby d7_49)
    have N19 := Fr.snoc X19 N3 ge_aQ
    have IaP_19 := J3_0.other W19 ne_aP_aQ
    have IaS_19 := IaS_3.other W19 ne_aS_aQ
    have Xo0_19 := Xo0_3.wr W19
    have Fo0_parent_19 := Fo0_parent_3.other W19 (Or.inl ne_o0_aQ)
    have Fo0_size_19 := Fo0_size_3.other W19 (Or.inl ne_o0_aQ)
    have Fo0_parallelism_19 := Fo0_parallelism_3.other W19 (Or.inl ne_o0_aQ)
    have Z19 : n0 ≤ h19.size := Own.size_wr W19 Z3
    have K19 : Keep h0 h19 [aP, aQ] := KK3.wr W19 (Or.inl (List.mem_of_getElem? (i := 1) rfl))
    have q20 : Steps p.tables e below (s₁.setTop (entryFrame m #[(.ref o0), (.int p1), (.int p2)] 5)) (T19.setTop (mkF m 50 #[.val (.ref o0), .val (.int p1), .val (.int p2), .val (.int r2.1), .val (.int v9)] [])) := q17.trans (st19 _ (Steps.refl _))
    obtain rfl := Option.some.inj hM
    obtain ⟨fs, hr, hrun, hended, hW, hsame⟩ := X19.leave (v := none) (fun _ => rfl)
    refine ⟨_, _, q20.trans ?_, hrun, hended, _, _, rfl, ?_, ⟨_, rfl⟩, hW, hsame.mono (by decide) (by decide)⟩
    · exact X19.returnOut hx Bd.returns (hb hby d7_50) hr
    · show Q_rmS Z o0 p1 p2 aP aS aQ xP xS xQ _ h0 n0 _ T19.heap _
      rw [e19]
      exact ⟨rfl, N19, K19, IaP_19, J19⟩
  · rw [if_neg hc12] at hM
    have q21 : Steps p.tables e below (s₁.setTop (entryFrame m #[(.ref o0), (.int p1), (.int p2)] 5)) (T6.setTop (mkF m 20 #[.val (.ref o0), .val (.int p1), .val (.int p2), .val (.int r2.1), .val (.int v9)] [])) := q11.trans (by
        show Steps p.tables e below (T6.setTop (mkF m 17 #[.val (.ref o0), .val (.int p1), .val (.int p2), .val (.int r2.1), .val (.int v9)] [(.int (-1 : Int32)), (.int v9)])) _
        refine XS.icmpNo X6.here hx rfl (hb hby d7_17) rfl (feq hc12).1 ?_
        show Steps p.tables e below (T6.setTop (mkF m 20 #[.val (.ref o0), .val (.int p1), .val (.int p2), .val (.int r2.1), .val (.int v9)] [])) _
        exact Steps.refl _)
    have q22 : Steps p.tables e below (s₁.setTop (entryFrame m #[(.ref o0), (.int p1), (.int p2)] 5)) (T6.setTop (mkF m 23 #[.val (.ref o0), .val (.int p1), .val (.int p2), .val (.int r2.1), .val (.int v9)] [(.int p2), (.int v9)])) := q21.trans (by
        show Steps p.tables e below (T6.setTop (mkF m 20 #[.val (.ref o0), .val (.int p1), .val (.int p2), .val (.int r2.1), .val (.int v9)] [])) _
        refine XS.iload X6.here hx rfl (hb hby d7_20) rfl ?_
        show Steps p.tables e below (T6.setTop (mkF m 22 #[.val (.ref o0), .val (.int p1), .val (.int p2), .val (.int r2.1), .val (.int v9)] [(.int v9)])) _
        refine XS.iloadN X6.here hx rfl (hb hby d7_22) rfl ?_
        show Steps p.tables e below (T6.setTop (mkF m 23 #[.val (.ref o0), .val (.int p1), .val (.int p2), .val (.int r2.1), .val (.int v9)] [(.int p2), (.int v9)])) _
        exact Steps.refl _)
    by_cases hc23 : v9 = p2
    · rw [if_pos hc23] at hM
      have q24 : Steps p.tables e below (s₁.setTop (entryFrame m #[(.ref o0), (.int p1), (.int p2)] 5)) (T6.setTop (mkF m 43 #[.val (.ref o0), .val (.int p1), .val (.int p2), .val (.int r2.1), .val (.int v9)] [])) := q22.trans (by
          show Steps p.tables e below (T6.setTop (mkF m 23 #[.val (.ref o0), .val (.int p1), .val (.int p2), .val (.int r2.1), .val (.int v9)] [(.int p2), (.int v9)])) _
          refine XS.icmpYes X6.here hx rfl (pc0 := 23) (pc' := 43) rfl (hb hby d7_23) rfl (teq hc23).1 (by decide) (by decide) ?_
          show Steps p.tables e below (T6.setTop (mkF m 43 #[.val (.ref o0), .val (.int p1), .val (.int p2), .val (.int r2.1), .val (.int v9)] [])) _
          exact Steps.refl _)
      have q25 : Steps p.tables e below (s₁.setTop (entryFrame m #[(.ref o0), (.int p1), (.int p2)] 5)) (T6.setTop (mkF m 44 #[.val (.ref o0), .val (.int p1), .val (.int p2), .val (.int r2.1), .val (.int v9)] [(.ref o0)])) := q24.trans (by
          show Steps p.tables e below (T6.setTop (mkF m 43 #[.val (.ref o0), .val (.int p1), .val (.int p2), .val (.int r2.1), .val (.int v9)] [])) _
          refine XS.aloadN X6.here hx rfl (hb hby d7_43) rfl rfl ?_
          show Steps p.tables e below (T6.setTop (mkF m 44 #[.val (.ref o0), .val (.int p1), .val (.int p2), .val (.int r2.1), .val (.int v9)] [(.ref o0)])) _
          exact Steps.refl _)
      obtain ⟨T26, X26, e26, st26⟩ := getF X6 hx hZ hown (host := "") (Or.inl (hw _ (List.mem_of_getElem? (i := 14) rfl))) Via.refl e6 Fo0_parallelism_3 (g := (mkF m 44 #[.val (.ref o0), .val (.int p1), .val (.int p2), .val (.int r2.1), .val (.int v9)] [(.ref o0)])) rfl rfl (hb hby d7_44)
      have q27 : Steps p.tables e below (s₁.setTop (entryFrame m #[(.ref o0), (.int p1), (.int p2)] 5)) (T26.setTop (mkF m 47 #[.val (.ref o0), .val (.int p1), .val (.int p2), .val (.int r2.1), .val (.int v9)] [(.ref aQ)])) := q25.trans (st26 _ (Steps.refl _))
      have q28 : Steps p.tables e below (s₁.setTop (entryFrame m #[(.ref o0), (.int p1), (.int p2)] 5)) (T26.setTop (mkF m 49 #[.val (.ref o0), .val (.int p1), .val (.int p2), .val (.int r2.1), .val (.int v9)] [(.int p2), (.int r2.1), (.ref aQ)])) := q27.trans (by
          show Steps p.tables e below (T26.setTop (mkF m 47 #[.val (.ref o0), .val (.int p1), .val (.int p2), .val (.int r2.1), .val (.int v9)] [(.ref aQ)])) _
          refine XS.iloadN X26.here hx rfl (hb hby d7_47) rfl ?_
          show Steps p.tables e below (T26.setTop (mkF m 48 #[.val (.ref o0), .val (.int p1), .val (.int p2), .val (.int r2.1), .val (.int v9)] [(.int r2.1), (.ref aQ)])) _
          refine XS.iloadN X26.here hx rfl (hb hby d7_48) rfl ?_
          show Steps p.tables e below (T26.setTop (mkF m 49 #[.val (.ref o0), .val (.int p1), .val (.int p2), .val (.int r2.1), .val (.int v9)] [(.int p2), (.int r2.1), (.ref aQ)])) _
          exact Steps.refl _)
      obtain ⟨y29, hy29, hM⟩ := Option.bind_eq_some_iff.mp hM
      obtain ⟨T30, h30, X30, e30, W30, J30, st30⟩ := Own.stO X26 hx hZ e26 IaQ_3 hy29 (g := (mkF m 49 #[.val (.ref o0), .val (.int p1), .val (.int p2), .val (.int r2.1), .val (.int v9)] [(.int p2), (.int r2.1), (.ref aQ)])) rfl rfl (hb hby d7_49)
      have N30 := Fr.snoc X30 N3 ge_aQ
      have IaP_30 := J3_0.other W30 ne_aP_aQ
      have IaS_30 := IaS_3.other W30 ne_aS_aQ
      have Xo0_30 := Xo0_3.wr W30
      have Fo0_parent_30 := Fo0_parent_3.other W30 (Or.inl ne_o0_aQ)
      have Fo0_size_30 := Fo0_size_3.other W30 (Or.inl ne_o0_aQ)
      have Fo0_parallelism_30 := Fo0_parallelism_3.other W30 (Or.inl ne_o0_aQ)
      have Z30 : n0 ≤ h30.size := Own.size_wr W30 Z3
      have K30 : Keep h0 h30 [aP, aQ] := KK3.wr W30 (Or.inl (List.mem_of_getElem? (i := 1) rfl))
      have q31 : Steps p.tables e below (s₁.setTop (entryFrame m #[(.ref o0), (.int p1), (.int p2)] 5)) (T30.setTop (mkF m 50 #[.val (.ref o0), .val (.int p1), .val (.int p2), .val (.int r2.1), .val (.int v9)] [])) := q28.trans (st30 _ (Steps.refl _))
      obtain rfl := Option.some.inj hM
      obtain ⟨fs, hr, hrun, hended, hW, hsame⟩ := X30.leave (v := none) (fun _ => rfl)
      refine ⟨_, _, q31.trans ?_, hrun, hended, _, _, rfl, ?_, ⟨_, rfl⟩, hW, hsame.mono (by decide) (by decide)⟩
      · exact X30.returnOut hx Bd.returns (hb hby d7_50) hr
      · show Q_rmS Z o0 p1 p2 aP aS aQ xP xS xQ _ h0 n0 _ T30.heap _
        rw [e30]
        exact ⟨rfl, N30, K30, IaP_30, J30⟩
    · rw [if_neg hc23] at hM
      have q32 : Steps p.tables e below (s₁.setTop (entryFrame m #[(.ref o0), (.int p1), (.int p2)] 5)) (T6.setTop (mkF m 26 #[.val (.ref o0), .val (.int p1), .val (.int p2), .val (.int r2.1), .val (.int v9)] [])) := q22.trans (by
          show Steps p.tables e below (T6.setTop (mkF m 23 #[.val (.ref o0), .val (.int p1), .val (.int p2), .val (.int r2.1), .val (.int v9)] [(.int p2), (.int v9)])) _
          refine XS.icmpNo X6.here hx rfl (hb hby d7_23) rfl (feq hc23).1 ?_
          show Steps p.tables e below (T6.setTop (mkF m 26 #[.val (.ref o0), .val (.int p1), .val (.int p2), .val (.int r2.1), .val (.int v9)] [])) _
          exact Steps.refl _)
      cases hM

theorem d4_0 : decode prog_35_method_5_code 0 = .ok (.aload_n 0, 1) := by decide +kernel
theorem d4_1 : decode prog_35_method_5_code 1 = .ok (.iload_n 1, 1) := by decide +kernel
theorem d4_2 : decode prog_35_method_5_code 2 = .ok (.invokevirtual 96, 3) := by decide +kernel
theorem d4_5 : decode prog_35_method_5_code 5 = .ok (.istore_n 3, 1) := by decide +kernel
theorem d4_6 : decode prog_35_method_5_code 6 = .ok (.aload_n 0, 1) := by decide +kernel
theorem d4_7 : decode prog_35_method_5_code 7 = .ok (.iload_n 2, 1) := by decide +kernel
theorem d4_8 : decode prog_35_method_5_code 8 = .ok (.invokevirtual 96, 3) := by decide +kernel
theorem d4_11 : decode prog_35_method_5_code 11 = .ok (.istore 4, 2) := by decide +kernel
theorem d4_13 : decode prog_35_method_5_code 13 = .ok (.aload_n 0, 1) := by decide +kernel
theorem d4_14 : decode prog_35_method_5_code 14 = .ok (.getfield 16, 3) := by decide +kernel
theorem d4_17 : decode prog_35_method_5_code 17 = .ok (.iload_n 3, 1) := by decide +kernel
theorem d4_18 : decode prog_35_method_5_code 18 = .ok (.iaload, 1) := by decide +kernel
theorem d4_19 : decode prog_35_method_5_code 19 = .ok (.istore 5, 2) := by decide +kernel
theorem d4_21 : decode prog_35_method_5_code 21 = .ok (.aload_n 0, 1) := by decide +kernel
theorem d4_22 : decode prog_35_method_5_code 22 = .ok (.getfield 16, 3) := by decide +kernel
theorem d4_25 : decode prog_35_method_5_code 25 = .ok (.iload 4, 2) := by decide +kernel
theorem d4_27 : decode prog_35_method_5_code 27 = .ok (.iaload, 1) := by decide +kernel
theorem d4_28 : decode prog_35_method_5_code 28 = .ok (.istore 6, 2) := by decide +kernel
theorem d4_30 : decode prog_35_method_5_code 30 = .ok (.iload 5, 2) := by decide +kernel
theorem d4_32 : decode prog_35_method_5_code 32 = .ok (.iconst (-1), 1) := by decide +kernel
theorem d4_33 : decode prog_35_method_5_code 33 = .ok (.if_icmp .eq 20, 3) := by decide +kernel
theorem d4_36 : decode prog_35_method_5_code 36 = .ok (.iload 6, 2) := by decide +kernel
theorem d4_38 : decode prog_35_method_5_code 38 = .ok (.iconst (-1), 1) := by decide +kernel
theorem d4_39 : decode prog_35_method_5_code 39 = .ok (.if_icmp .eq 14, 3) := by decide +kernel
theorem d4_42 : decode prog_35_method_5_code 42 = .ok (.iload 5, 2) := by decide +kernel
theorem d4_44 : decode prog_35_method_5_code 44 = .ok (.iload 6, 2) := by decide +kernel
theorem d4_46 : decode prog_35_method_5_code 46 = .ok (.if_icmp .eq 7, 3) := by decide +kernel
theorem d4_49 : decode prog_35_method_5_code 49 = .ok (.iconst 1, 1) := by decide +kernel
theorem d4_50 : decode prog_35_method_5_code 50 = .ok (.goto 4, 3) := by decide +kernel
theorem d4_53 : decode prog_35_method_5_code 53 = .ok (.iconst 0, 1) := by decide +kernel
theorem d4_54 : decode prog_35_method_5_code 54 = .ok (.istore 7, 2) := by decide +kernel
theorem d4_56 : decode prog_35_method_5_code 56 = .ok (.iload 7, 2) := by decide +kernel
theorem d4_58 : decode prog_35_method_5_code 58 = .ok (.ifCond .ne 93, 3) := by decide +kernel
theorem d4_61 : decode prog_35_method_5_code 61 = .ok (.iload_n 3, 1) := by decide +kernel
theorem d4_62 : decode prog_35_method_5_code 62 = .ok (.iload 4, 2) := by decide +kernel
theorem d4_64 : decode prog_35_method_5_code 64 = .ok (.if_icmp .eq 87, 3) := by decide +kernel
theorem d4_67 : decode prog_35_method_5_code 67 = .ok (.aload_n 0, 1) := by decide +kernel
theorem d4_68 : decode prog_35_method_5_code 68 = .ok (.getfield 13, 3) := by decide +kernel
theorem d4_71 : decode prog_35_method_5_code 71 = .ok (.iload_n 3, 1) := by decide +kernel
theorem d4_72 : decode prog_35_method_5_code 72 = .ok (.iaload, 1) := by decide +kernel
theorem d4_73 : decode prog_35_method_5_code 73 = .ok (.aload_n 0, 1) := by decide +kernel
theorem d4_74 : decode prog_35_method_5_code 74 = .ok (.getfield 13, 3) := by decide +kernel
theorem d4_77 : decode prog_35_method_5_code 77 = .ok (.iload 4, 2) := by decide +kernel
theorem d4_79 : decode prog_35_method_5_code 79 = .ok (.iaload, 1) := by decide +kernel
theorem d4_80 : decode prog_35_method_5_code 80 = .ok (.if_icmp .lt 7, 3) := by decide +kernel
theorem d4_83 : decode prog_35_method_5_code 83 = .ok (.iload_n 3, 1) := by decide +kernel
theorem d4_84 : decode prog_35_method_5_code 84 = .ok (.goto 5, 3) := by decide +kernel
theorem d4_87 : decode prog_35_method_5_code 87 = .ok (.iload 4, 2) := by decide +kernel
theorem d4_89 : decode prog_35_method_5_code 89 = .ok (.istore 8, 2) := by decide +kernel
theorem d4_91 : decode prog_35_method_5_code 91 = .ok (.iload 8, 2) := by decide +kernel
theorem d4_93 : decode prog_35_method_5_code 93 = .ok (.iload_n 3, 1) := by decide +kernel
theorem d4_94 : decode prog_35_method_5_code 94 = .ok (.if_icmp .ne 8, 3) := by decide +kernel
theorem d4_97 : decode prog_35_method_5_code 97 = .ok (.iload 4, 2) := by decide +kernel
theorem d4_99 : decode prog_35_method_5_code 99 = .ok (.goto 4, 3) := by decide +kernel
theorem d4_102 : decode prog_35_method_5_code 102 = .ok (.iload_n 3, 1) := by decide +kernel
theorem d4_103 : decode prog_35_method_5_code 103 = .ok (.istore 9, 2) := by decide +kernel
theorem d4_105 : decode prog_35_method_5_code 105 = .ok (.aload_n 0, 1) := by decide +kernel
theorem d4_106 : decode prog_35_method_5_code 106 = .ok (.getfield 7, 3) := by decide +kernel
theorem d4_109 : decode prog_35_method_5_code 109 = .ok (.iload 9, 2) := by decide +kernel
theorem d4_111 : decode prog_35_method_5_code 111 = .ok (.iload 8, 2) := by decide +kernel
theorem d4_113 : decode prog_35_method_5_code 113 = .ok (.iastore, 1) := by decide +kernel
theorem d4_114 : decode prog_35_method_5_code 114 = .ok (.aload_n 0, 1) := by decide +kernel
theorem d4_115 : decode prog_35_method_5_code 115 = .ok (.getfield 13, 3) := by decide +kernel
theorem d4_118 : decode prog_35_method_5_code 118 = .ok (.iload 8, 2) := by decide +kernel
theorem d4_120 : decode prog_35_method_5_code 120 = .ok (.dup2, 1) := by decide +kernel
theorem d4_121 : decode prog_35_method_5_code 121 = .ok (.iaload, 1) := by decide +kernel
theorem d4_122 : decode prog_35_method_5_code 122 = .ok (.aload_n 0, 1) := by decide +kernel
theorem d4_123 : decode prog_35_method_5_code 123 = .ok (.getfield 13, 3) := by decide +kernel
theorem d4_126 : decode prog_35_method_5_code 126 = .ok (.iload 9, 2) := by decide +kernel
theorem d4_128 : decode prog_35_method_5_code 128 = .ok (.iaload, 1) := by decide +kernel
theorem d4_129 : decode prog_35_method_5_code 129 = .ok (.iadd, 1) := by decide +kernel
theorem d4_130 : decode prog_35_method_5_code 130 = .ok (.iastore, 1) := by decide +kernel
theorem d4_131 : decode prog_35_method_5_code 131 = .ok (.aload_n 0, 1) := by decide +kernel
theorem d4_132 : decode prog_35_method_5_code 132 = .ok (.getfield 16, 3) := by decide +kernel
theorem d4_135 : decode prog_35_method_5_code 135 = .ok (.iload 8, 2) := by decide +kernel
theorem d4_137 : decode prog_35_method_5_code 137 = .ok (.iload 5, 2) := by decide +kernel
theorem d4_139 : decode prog_35_method_5_code 139 = .ok (.iconst (-1), 1) := by decide +kernel
theorem d4_140 : decode prog_35_method_5_code 140 = .ok (.if_icmp .eq 8, 3) := by decide +kernel
theorem d4_143 : decode prog_35_method_5_code 143 = .ok (.iload 5, 2) := by decide +kernel
theorem d4_145 : decode prog_35_method_5_code 145 = .ok (.goto 5, 3) := by decide +kernel
theorem d4_148 : decode prog_35_method_5_code 148 = .ok (.iload 6, 2) := by decide +kernel
theorem d4_150 : decode prog_35_method_5_code 150 = .ok (.iastore, 1) := by decide +kernel
theorem d4_151 : decode prog_35_method_5_code 151 = .ok (.iload 7, 2) := by decide +kernel
theorem d4_153 : decode prog_35_method_5_code 153 = .ok (.ifCond .ne 7, 3) := by decide +kernel
theorem d4_156 : decode prog_35_method_5_code 156 = .ok (.iconst 1, 1) := by decide +kernel
theorem d4_157 : decode prog_35_method_5_code 157 = .ok (.goto 4, 3) := by decide +kernel
theorem d4_160 : decode prog_35_method_5_code 160 = .ok (.iconst 0, 1) := by decide +kernel
theorem d4_161 : decode prog_35_method_5_code 161 = .ok (.ireturn, 1) := by decide +kernel
theorem pn_rmJ : plainName "com/example/tideplan/tideplan/planner/ForwardGroups" = true := by first | (simp [plainName, overriddenIn]; done) | decide +kernel
theorem ef_rmJ (m : MethodId) (o0 : Addr) (p1 : Int32) (p2 : Int32) : entryFrame m #[(.ref o0), (.int p1), (.int p2)] 10 = mkF m 0 #[.val (.ref o0), .val (.int p1), .val (.int p2), .unset, .unset, .unset, .unset, .unset, .unset, .unset] [] := by first | (simp [entryFrame, mkF, argsToLocals, Value.category]; done) | rfl
def M_join (p1 : Int32) (p2 : Int32) (xP : List Int32) (xS : List Int32) (xQ : List Int32) : Option (Int32 × List Int32 × List Int32 × List Int32) := (M_find p1 xP xS xQ).bind fun r2 => (M_find p2 r2.2 xS xQ).bind fun r6 => (Own.rd xQ r2.1).bind fun v13 => (Own.rd xQ r6.1).bind fun v19 => (some (if v13 = (-1 : Int32) then (0 : Int32) else (if v19 = (-1 : Int32) then (0 : Int32) else (if v13 = v19 then (0 : Int32) else (1 : Int32))))).bind fun v25 => (if v25 = (0 : Int32) then (if r2.1 = r6.1 then some ((1 : Int32), r6.2, xS, xQ) else (Own.rd xS r2.1).bind fun v42 => (Own.rd xS r6.1).bind fun v48 => (some (if v42 < v48 then r6.1 else r2.1)).bind fun v51 => (some (if v51 = r2.1 then r6.1 else r2.1)).bind fun v55 => (Own.wt r6.2 v55 v51).bind fun y61 => (Own.rd xS v51).bind fun v68 => (Own.rd xS v55).bind fun v74 => (Own.wt xS v51 (v68 + v74)).bind fun y77 => (some (if v13 = (-1 : Int32) then v19 else v13)).bind fun v85 => (Own.wt xQ v51 v85).bind fun y87 => some ((1 : Int32), y61, y77, y87)) else some ((0 : Int32), r6.2, xS, xQ))
def Q_rmJ (Z : State) (o0 : Addr) (p1 : Int32) (p2 : Int32) (aP : Addr) (aS : Addr) (aQ : Addr) (xP : List Int32) (xS : List Int32) (xQ : List Int32) (out : Int32 × List Int32 × List Int32 × List Int32) (h0 : Heap) (n0 : Nat) (v : Option Value) (h : Heap) (L : List Loc) : Prop := v = some (.int out.1) ∧ Fr n0 L ∧ Keep h0 h [aP, aS, aQ] ∧ Own.IA Z h aP out.2.1 ∧ Own.IA Z h aS out.2.2.1 ∧ Own.IA Z h aQ out.2.2.2
set_option maxRecDepth 65536 in
set_option maxHeartbeats 40000000 in
theorem rmJ (l : Launch) (Z : State) (a0 : Array Value) (hw : ∀ d ∈ tables_1, d.before a0 Z = true) (ws : List Jvm.Cond) (o0 : Addr) (p1 : Int32) (p2 : Int32) (aP : Addr) (aS : Addr) (aQ : Addr) (xP : List Int32) (xS : List Int32) (xQ : List Int32) (out : Int32 × List Int32 × List Int32 × List Int32) (h0 : Heap) (n0 : Nat) (Z0 : n0 ≤ h0.size) (E_o0 : Exa Z h0 o0 "com/example/tideplan/tideplan/planner/ForwardGroups") (F_o0_parent : Fld Z h0 o0 "com/example/tideplan/tideplan/planner/ForwardGroups" "parent" "[I" (.ref aP)) (F_o0_size : Fld Z h0 o0 "com/example/tideplan/tideplan/planner/ForwardGroups" "size" "[I" (.ref aS)) (F_o0_parallelism : Fld Z h0 o0 "com/example/tideplan/tideplan/planner/ForwardGroups" "parallelism" "[I" (.ref aQ)) (I_aP : Own.IA Z h0 aP xP) (I_aS : Own.IA Z h0 aS xS) (I_aQ : Own.IA Z h0 aQ xQ) (ge_aP : n0 ≤ aP) (ge_aS : n0 ≤ aS) (ge_aQ : n0 ≤ aQ) (ne_aP_aS : aP ≠ aS) (ne_aP_aQ : aP ≠ aQ) (ne_aS_aQ : aS ≠ aQ) (ne_o0_aP : o0 ≠ aP) (ne_o0_aS : o0 ≠ aS) (ne_o0_aQ : o0 ≠ aQ) (hM : M_join p1 p2 xP xS xQ = some out) :
    MetFree l (⟨"com/example/tideplan/tideplan/planner/ForwardGroups", "join", "(II)Z"⟩ : MethodName) (head1 (Jvm.Cond.code (⟨"com/example/tideplan/tideplan/planner/ForwardGroups", "join", "(II)Z"⟩ : MethodName) prog_35_method_5_code 10 (some .boolean) :: ws) ({ frames := 1, cells := 0, slots := 0, locals := 14 } : Room)) (fun a U => a = #[(.ref o0), (.int p1), (.int p2)] ∧ Z.Warmed39 U.vm ∧ U.heap = h0) (fun _ _ _ _ _ => True) (fun _ U o U' => ∃ v L, o = .returned v ∧ Q_rmJ Z o0 p1 p2 aP aS aQ xP xS xQ out h0 n0 v U'.heap L ∧ FrameEnd U o U' L ({ frames := 1, cells := 0, slots := 0, locals := 14 } : Room).cells ({ frames := 1, cells := 0, slots := 0, locals := 14 } : Room).slots) := by
  refine MetFree.of_bodySF (plainFor_of_name pn_rmJ) hisR ?_
  intro p e s m args below meth c s₁ Bd hml0 hP hK
  obtain ⟨rfl, hZ, hh⟩ := hP
  have hx := Bd.exec
  have hby := Bd.bytes
  have hml : c.maxLocals = 10 := hml0
  have hown : s.vm.findClass "com/example/tideplan/tideplan/planner/ForwardGroups" = some m.cls := findClass_of_methodNamed Bd.named
  have hnm := (name_of_methodNamed Bd.named Bd.method).1
  have X0 : Stand p l e ({ frames := 1, cells := 0, slots := 0, locals := 14 } : Room) s m #[(.ref o0), (.int p1), (.int p2)] below meth c s₁ [] 0 0 := Stand.of_body Bd
  have e0 : s₁.heap = h0 := by rw [← hh, Bd.state]; rfl
  have N0 := Fr.nil n0
  have q0 : Steps p.tables e below (s₁.setTop (entryFrame m #[(.ref o0), (.int p1), (.int p2)] 10)) (s₁.setTop (mkF m 0 #[.val (.ref o0), .val (.int p1), .val (.int p2), .unset, .unset, .unset, .unset, .unset, .unset, .unset] [])) := castTop (ef_rmJ m o0 p1 p2) (Steps.refl _)
  unfold M_join at hM
  have K0 : Keep h0 h0 [aP, aS, aQ] := Keep.refl _ _
  have q1 : Steps p.tables e below (s₁.setTop (entryFrame m #[(.ref o0), (.int p1), (.int p2)] 10)) (s₁.setTop (mkF m 2 #[.val (.ref o0), .val (.int p1), .val (.int p2), .unset, .unset, .unset, .unset, .unset, .unset, .unset] [(.int p1), (.ref o0)])) := q0.trans (by
      show Steps p.tables e below (s₁.setTop (mkF m 0 #[.val (.ref o0), .val (.int p1), .val (.int p2), .unset, .unset, .unset, .unset, .unset, .unset, .unset] [])) _
      refine XS.aloadN X0.here hx rfl (hb hby d4_0) rfl rfl ?_
      show Steps p.tables e below (s₁.setTop (mkF m 1 #[.val (.ref o0), .val (.int p1), .val (.int p2), .unset, .unset, .unset, .unset, .unset, .unset, .unset] [(.ref o0)])) _
      refine XS.iloadN X0.here hx rfl (hb hby d4_1) rfl ?_
      show Steps p.tables e below (s₁.setTop (mkF m 2 #[.val (.ref o0), .val (.int p1), .val (.int p2), .unset, .unset, .unset, .unset, .unset, .unset, .unset] [(.int p1), (.ref o0)])) _
      exact Steps.refl _)
  obtain ⟨r2, hr2, hM⟩ := Option.bind_eq_some_iff.mp hM
  obtain ⟨cq3, q3, q3'⟩ := E_o0.cell
  obtain ⟨_, _, ⟨T3, L3, k3, n3⟩, -, X3, ⟨Lc3, hQ3, l3, y3, z3⟩, st3⟩ := X0.privateBack hx (y := (⟨"com/example/tideplan/tideplan/planner/ForwardGroups", "find", "(I)I"⟩ : MethodName)) hown (mvT hZ (hw _ (List.mem_of_getElem? (i := 25) rfl))) (mvT hZ (hw _ (List.mem_of_getElem? (i := 26) rfl))) (Jvm.Kit.selects_private (by decide) (mvT hZ (hw _ (List.mem_of_getElem? (i := 1) rfl))) (mvP hZ (hw _ (List.mem_of_getElem? (i := 27) rfl))) (mvT hZ (hw _ (List.mem_of_getElem? (i := 26) rfl)))) (Cond.privateMethod_at (mvP hZ (hw _ (List.mem_of_getElem? (i := 27) rfl)) (args := #[]))) (mvT hZ (hw _ (List.mem_of_getElem? (i := 28) rfl))) (by decide) (backOf (W := 0) (rmF l Z a0 hw [] o0 p1 aP aS aQ xP xS xQ r2 h0 n0 Z0 E_o0 F_o0_parent F_o0_size F_o0_parallelism I_aP I_aS I_aQ ge_aP ge_aS ge_aQ ne_aP_aS ne_aP_aQ ne_aS_aQ ne_o0_aP ne_o0_aS ne_o0_aQ hr2) hZ (hw _ (List.mem_of_getElem? (i := 28) rfl)) (hw _ (List.mem_of_getElem? (i := 2) rfl)) (by decide) (by decide)) (g := (mkF m 2 #[.val (.ref o0), .val (.int p1), .val (.int p2), .unset, .unset, .unset, .unset, .unset, .unset, .unset] [(.int p1), (.ref o0)])) rfl (by rw [hml]; rfl) (Steps.refl _) (a := o0) (by rw [e0]; exact q3) q3' (argsL := [(.int p1)]) (rest := []) (lenOf pd_0 rfl) rfl (by show 2 * 0 + _ ≤ _; exact Nat.le_of_eq rfl) (hb hby d4_2) (fun _ _ => ⟨rfl, e0, (by decide : 0 + 0 ≤ _), (by decide : 0 + 0 ≤ _)⟩)
  dsimp only [Pt.U, Pt.locs, Pt.cells, Pt.slots] at X3 l3 y3 z3 st3 hQ3
  subst l3 y3 z3
  obtain ⟨rfl, N3q, K3, J3_0⟩ := hQ3
  have N3 := Fr.app N0 N3q
  have IaS_3 := I_aS.keep K3 (ninS (Ne.symm ne_aP_aS) nin0)
  have IaQ_3 := I_aQ.keep K3 (ninS (Ne.symm ne_aP_aQ) nin0)
  have Xo0_3 := E_o0.keep K3
  have Fo0_parent_3 := F_o0_parent.keep K3 (ninS ne_o0_aP nin0)
  have Fo0_size_3 := F_o0_size.keep K3 (ninS ne_o0_aP nin0)
  have Fo0_parallelism_3 := F_o0_parallelism.keep K3 (ninS ne_o0_aP nin0)
  have Z3 : n0 ≤ T3.heap.size := Nat.le_trans Z0 K3.1
  have KK3 : Keep h0 T3.heap [aP, aS, aQ] := K0.trans K3 (allS (Or.inl (List.mem_of_getElem? (i := 0) rfl)) all0)
  have q4 : Steps p.tables e below (s₁.setTop (entryFrame m #[(.ref o0), (.int p1), (.int p2)] 10)) (T3.setTop (mkF m 5 #[.val (.ref o0), .val (.int p1), .val (.int p2), .unset, .unset, .unset, .unset, .unset, .unset, .unset] [(.int r2.1)])) := q1.trans (st3)
  have q5 : Steps p.tables e below (s₁.setTop (entryFrame m #[(.ref o0), (.int p1), (.int p2)] 10)) (T3.setTop (mkF m 8 #[.val (.ref o0), .val (.int p1), .val (.int p2), .val (.int r2.1), .unset, .unset, .unset, .unset, .unset, .unset] [(.int p2), (.ref o0)])) := q4.trans (by
      show Steps p.tables e below (T3.setTop (mkF m 5 #[.val (.ref o0), .val (.int p1), .val (.int p2), .unset, .unset, .unset, .unset, .unset, .unset, .unset] [(.int r2.1)])) _
      refine XS.istoreN X3.here hx rfl (hb hby d4_5) rfl (l' := #[.val (.ref o0), .val (.int p1), .val (.int p2), .val (.int r2.1), .unset, .unset, .unset, .unset, .unset, .unset]) rfl ?_
      show Steps p.tables e below (T3.setTop (mkF m 6 #[.val (.ref o0), .val (.int p1), .val (.int p2), .val (.int r2.1), .unset, .unset, .unset, .unset, .unset, .unset] [])) _
      refine XS.aloadN X3.here hx rfl (hb hby d4_6) rfl rfl ?_
      show Steps p.tables e below (T3.setTop (mkF m 7 #[.val (.ref o0), .val (.int p1), .val (.int p2), .val (.int r2.1), .unset, .unset, .unset, .unset, .unset, .unset] [(.ref o0)])) _
      refine XS.iloadN X3.here hx rfl (hb hby d4_7) rfl ?_
      show Steps p.tables e below (T3.setTop (mkF m 8 #[.val (.ref o0), .val (.int p1), .val (.int p2), .val (.int r2.1), .unset, .unset, .unset, .unset, .unset, .unset] [(.int p2), (.ref o0)])) _
      exact Steps.refl _)
  obtain ⟨r6, hr6, hM⟩ := Option.bind_eq_some_iff.mp hM
  obtain ⟨cq7, q7, q7'⟩ := Xo0_3.cell
  obtain ⟨_, _, ⟨T7, L7, k7, n7⟩, -, X7, ⟨Lc7, hQ7, l7, y7, z7⟩, st7⟩ := X3.privateBack hx (y := (⟨"com/example/tideplan/tideplan/planner/ForwardGroups", "find", "(I)I"⟩ : MethodName)) hown (mvT hZ (hw _ (List.mem_of_getElem? (i := 25) rfl))) (mvT hZ (hw _ (List.mem_of_getElem? (i := 26) rfl))) (Jvm.Kit.selects_private (by decide) (mvT hZ (hw _ (List.mem_of_getElem? (i := 1) rfl))) (mvP hZ (hw _ (List.mem_of_getElem? (i := 27) rfl))) (mvT hZ (hw _ (List.mem_of_getElem? (i := 26) rfl)))) (Cond.privateMethod_at (mvP hZ (hw _ (List.mem_of_getElem? (i := 27) rfl)) (args := #[]))) (mvT hZ (hw _ (List.mem_of_getElem? (i := 28) rfl))) (by decide) (backOf (W := 0) (rmF l Z a0 hw [] o0 p2 aP aS aQ r2.2 xS xQ r6 T3.heap n0 Z3 Xo0_3 Fo0_parent_3 Fo0_size_3 Fo0_parallelism_3 J3_0 IaS_3 IaQ_3 ge_aP ge_aS ge_aQ ne_aP_aS ne_aP_aQ ne_aS_aQ ne_o0_aP ne_o0_aS ne_o0_aQ hr6) hZ (hw _ (List.mem_of_getElem? (i := 28) rfl)) (hw _ (List.mem_of_getElem? (i := 2) rfl)) (by decide) (by decide)) (g := (mkF m 8 #[.val (.ref o0), .val (.int p1), .val (.int p2), .val (.int r2.1), .unset, .unset, .unset, .unset, .unset, .unset] [(.int p2), (.ref o0)])) rfl (by rw [hml]; rfl) (Steps.refl _) (a := o0) q7 q7' (argsL := [(.int p2)]) (rest := []) (lenOf pd_0 rfl) rfl (by show 2 * 0 + _ ≤ _; exact Nat.le_of_eq rfl) (hb hby d4_8) (fun _ _ => ⟨rfl, rfl, (by decide : 0 + 0 ≤ _), (by decide : 0 + 0 ≤ _)⟩)
  dsimp only [Pt.U, Pt.locs, Pt.cells, Pt.slots] at X7 l7 y7 z7 st7 hQ7
  subst l7 y7 z7
  obtain ⟨rfl, N7q, K7, J7_0⟩ := hQ7
  have N7 := Fr.app N3 N7q
  have IaS_7 := IaS_3.keep K7 (ninS (Ne.symm ne_aP_aS) nin0)
  have IaQ_7 := IaQ_3.keep K7 (ninS (Ne.symm ne_aP_aQ) nin0)
  have Xo0_7 := Xo0_3.keep K7
  have Fo0_parent_7 := Fo0_parent_3.keep K7 (ninS ne_o0_aP nin0)
  have Fo0_size_7 := Fo0_size_3.keep K7 (ninS ne_o0_aP nin0)
  have Fo0_parallelism_7 := Fo0_parallelism_3.keep K7 (ninS ne_o0_aP nin0)
  have Z7 : n0 ≤ T7.heap.size := Nat.le_trans Z3 K7.1
  have KK7 : Keep h0 T7.heap [aP, aS, aQ] := KK3.trans K7 (allS (Or.inl (List.mem_of_getElem? (i := 0) rfl)) all0)
  have q8 : Steps p.tables e below (s₁.setTop (entryFrame m #[(.ref o0), (.int p1), (.int p2)] 10)) (T7.setTop (mkF m 11 #[.val (.ref o0), .val (.int p1), .val (.int p2), .val (.int r2.1), .unset, .unset, .unset, .unset, .unset, .unset] [(.int r6.1)])) := q5.trans (st7)
  have q9 : Steps p.tables e below (s₁.setTop (entryFrame m #[(.ref o0), (.int p1), (.int p2)] 10)) (T7.setTop (mkF m 14 #[.val (.ref o0), .val (.int p1), .val (.int p2), .val (.int r2.1), .val (.int r6.1), .unset, .unset, .unset, .unset, .unset] [(.ref o0)])) := q8.trans (by
      show Steps p.tables e below (T7.setTop (mkF m 11 #[.val (.ref o0), .val (.int p1), .val (.int p2), .val (.int r2.1), .unset, .unset, .unset, .unset, .unset, .unset] [(.int r6.1)])) _
      refine XS.istore X7.here hx rfl (hb hby d4_11) rfl (l' := #[.val (.ref o0), .val (.int p1), .val (.int p2), .val (.int r2.1), .val (.int r6.1), .unset, .unset, .unset, .unset, .unset]) rfl ?_
      show Steps p.tables e below (T7.setTop (mkF m 13 #[.val (.ref o0), .val (.int p1), .val (.int p2), .val (.int r2.1), .val (.int r6.1), .unset, .unset, .unset, .unset, .unset] [])) _
      refine XS.aloadN X7.here hx rfl (hb hby d4_13) rfl rfl ?_
      show Steps p.tables e below (T7.setTop (mkF m 14 #[.val (.ref o0), .val (.int p1), .val (.int p2), .val (.int r2.1), .val (.int r6.1), .unset, .unset, .unset, .unset, .unset] [(.ref o0)])) _
      exact Steps.refl _)
  obtain ⟨T10, X10, e10, st10⟩ := getF X7 hx hZ hown (host := "") (Or.inl (hw _ (List.mem_of_getElem? (i := 14) rfl))) Via.refl rfl Fo0_parallelism_7 (g := (mkF m 14 #[.val (.ref o0), .val (.int p1), .val (.int p2), .val (.int r2.1), .val (.int r6.1), .unset, .unset, .unset, .unset, .unset] [(.ref o0)])) rfl rfl (hb hby d4_14)
  have q11 : Steps p.tables e below (s₁.setTop (entryFrame m #[(.ref o0), (.int p1), (.int p2)] 10)) (T10.setTop (mkF m 17 #[.val (.ref o0), .val (.int p1), .val (.int p2), .val (.int r2.1), .val (.int r6.1), .unset, .unset, .unset, .unset, .unset] [(.ref aQ)])) := q9.trans (st10 _ (Steps.refl _))
  have q12 : Steps p.tables e below (s₁.setTop (entryFrame m #[(.ref o0), (.int p1), (.int p2)] 10)) (T10.setTop (mkF m 18 #[.val (.ref o0), .val (.int p1), .val (.int p2), .val (.int r2.1), .val (.int r6.1), .unset, .unset, .unset, .unset, .unset] [(.int r2.1), (.ref aQ)])) := q11.trans (by
      show Steps p.tables e below (T10.setTop (mkF m 17 #[.val (.ref o0), .val (.int p1), .val (.int p2), .val (.int r2.1), .val (.int r6.1), .unset, .unset, .unset, .unset, .unset] [(.ref aQ)])) _
      refine XS.iloadN X10.here hx rfl (hb hby d4_17) rfl ?_
      show Steps p.tables e below (T10.setTop (mkF m 18 #[.val (.ref o0), .val (.int p1), .val (.int p2), .val (.int r2.1), .val (.int r6.1), .unset, .unset, .unset, .unset, .unset] [(.int r2.1), (.ref aQ)])) _
      exact Steps.refl _)
  obtain ⟨v13, hv13, hM⟩ := Option.bind_eq_some_iff.mp hM
  have q14 : Steps p.tables e below (s₁.setTop (entryFrame m #[(.ref o0), (.int p1), (.int p2)] 10)) (T10.setTop (mkF m 19 #[.val (.ref o0), .val (.int p1), .val (.int p2), .val (.int r2.1), .val (.int r6.1), .unset, .unset, .unset, .unset, .unset] [(.int v13)])) := q12.trans (Own.ldO X10 hx hZ e10 IaQ_7 hv13 (g := (mkF m 18 #[.val (.ref o0), .val (.int p1), .val (.int p2), .val (.int r2.1), .val (.int r6.1), .unset, .unset, .unset, .unset, .unset] [(.int r2.1), (.ref aQ)])) rfl rfl (hb hby d4_18) _ (Steps.refl _))
  have q15 : Steps p.tables e below (s₁.setTop (entryFrame m #[(.ref o0), (.int p1), (.int p2)] 10)) (T10.setTop (mkF m 22 #[.val (.ref o0), .val (.int p1), .val (.int p2), .val (.int r2.1), .val (.int r6.1), .val (.int v13), .unset, .unset, .unset, .unset] [(.ref o0)])) := q14.trans (by
      show Steps p.tables e below (T10.setTop (mkF m 19 #[.val (.ref o0), .val (.int p1), .val (.int p2), .val (.int r2.1), .val (.int r6.1), .unset, .unset, .unset, .unset, .unset] [(.int v13)])) _
      refine XS.istore X10.here hx rfl (hb hby d4_19) rfl (l' := #[.val (.ref o0), .val (.int p1), .val (.int p2), .val (.int r2.1), .val (.int r6.1), .val (.int v13), .unset, .unset, .unset, .unset]) rfl ?_
      show Steps p.tables e below (T10.setTop (mkF m 21 #[.val (.ref o0), .val (.int p1), .val (.int p2), .val (.int r2.1), .val (.int r6.1), .val (.int v13), .unset, .unset, .unset, .unset] [])) _
      refine XS.aloadN X10.here hx rfl (hb hby d4_21) rfl rfl ?_
      show Steps p.tables e below (T10.setTop (mkF m 22 #[.val (.ref o0), .val (.int p1), .val (.int p2), .val (.int r2.1), .val (.int r6.1), .val (.int v13), .unset, .unset, .unset, .unset] [(.ref o0)])) _
      exact Steps.refl _)
  obtain ⟨T16, X16, e16, st16⟩ := getF X10 hx hZ hown (host := "") (Or.inl (hw _ (List.mem_of_getElem? (i := 14) rfl))) Via.refl e10 Fo0_parallelism_7 (g := (mkF m 22 #[.val (.ref o0), .val (.int p1), .val (.int p2), .val (.int r2.1), .val (.int r6.1), .val (.int v13), .unset, .unset, .unset, .unset] [(.ref o0)])) rfl rfl (hb hby d4_22)
  have q17 : Steps p.tables e below (s₁.setTop (entryFrame m #[(.ref o0), (.int p1), (.int p2)] 10)) (T16.setTop (mkF m 25 #[.val (.ref o0), .val (.int p1), .val (.int p2), .val (.int r2.1), .val (.int r6.1), .val (.int v13), .unset, .unset, .unset, .unset] [(.ref aQ)])) := q15.trans (st16 _ (Steps.refl _))
  have q18 : Steps p.tables e below (s₁.setTop (entryFrame m #[(.ref o0), (.int p1), (.int p2)] 10)) (T16.setTop (mkF m 27 #[.val (.ref o0), .val (.int p1), .val (.int p2), .val (.int r2.1), .val (.int r6.1), .val (.int v13), .unset, .unset, .unset, .unset] [(.int r6.1), (.ref aQ)])) := q17.trans (by
      show Steps p.tables e below (T16.setTop (mkF m 25 #[.val (.ref o0), .val (.int p1), .val (.int p2), .val (.int r2.1), .val (.int r6.1), .val (.int v13), .unset, .unset, .unset, .unset] [(.ref aQ)])) _
      refine XS.iload X16.here hx rfl (hb hby d4_25) rfl ?_
      show Steps p.tables e below (T16.setTop (mkF m 27 #[.val (.ref o0), .val (.int p1), .val (.int p2), .val (.int r2.1), .val (.int r6.1), .val (.int v13), .unset, .unset, .unset, .unset] [(.int r6.1), (.ref aQ)])) _
      exact Steps.refl _)
  obtain ⟨v19, hv19, hM⟩ := Option.bind_eq_some_iff.mp hM
  have q20 : Steps p.tables e below (s₁.setTop (entryFrame m #[(.ref o0), (.int p1), (.int p2)] 10)) (T16.setTop (mkF m 28 #[.val (.ref o0), .val (.int p1), .val (.int p2), .val (.int r2.1), .val (.int r6.1), .val (.int v13), .unset, .unset, .unset, .unset] [(.int v19)])) := q18.trans (Own.ldO X16 hx hZ e16 IaQ_7 hv19 (g := (mkF m 27 #[.val (.ref o0), .val (.int p1), .val (.int p2), .val (.int r2.1), .val (.int r6.1), .val (.int v13), .unset, .unset, .unset, .unset] [(.int r6.1), (.ref aQ)])) rfl rfl (hb hby d4_27) _ (Steps.refl _))
  have q21 : Steps p.tables e below (s₁.setTop (entryFrame m #[(.ref o0), (.int p1), (.int p2)] 10)) (T16.setTop (mkF m 33 #[.val (.ref o0), .val (.int p1), .val (.int p2), .val (.int r2.1), .val (.int r6.1), .val (.int v13), .val (.int v19), .unset, .unset, .unset] [(.int (-1 : Int32)), (.int v13)])) := q20.trans (by
      show Steps p.tables e below (T16.setTop (mkF m 28 #[.val (.ref o0), .val (.int p1), .val (.int p2), .val (.int r2.1), .val (.int r6.1), .val (.int v13), .unset, .unset, .unset, .unset] [(.int v19)])) _
      refine XS.istore X16.here hx rfl (hb hby d4_28) rfl (l' := #[.val (.ref o0), .val (.int p1), .val (.int p2), .val (.int r2.1), .val (.int r6.1), .val (.int v13), .val (.int v19), .unset, .unset, .unset]) rfl ?_
      show Steps p.tables e below (T16.setTop (mkF m 30 #[.val (.ref o0), .val (.int p1), .val (.int p2), .val (.int r2.1), .val (.int r6.1), .val (.int v13), .val (.int v19), .unset, .unset, .unset] [])) _
      refine XS.iload X16.here hx rfl (hb hby d4_30) rfl ?_
      show Steps p.tables e below (T16.setTop (mkF m 32 #[.val (.ref o0), .val (.int p1), .val (.int p2), .val (.int r2.1), .val (.int r6.1), .val (.int v13), .val (.int v19), .unset, .unset, .unset] [(.int v13)])) _
      refine XS.iconst X16.here hx rfl (hb hby d4_32) ?_
      show Steps p.tables e below (T16.setTop (mkF m 33 #[.val (.ref o0), .val (.int p1), .val (.int p2), .val (.int r2.1), .val (.int r6.1), .val (.int v13), .val (.int v19), .unset, .unset, .unset] [(.int (-1 : Int32)), (.int v13)])) _
      exact Steps.refl _)
  obtain ⟨v25, hv25, hM⟩ := Option.bind_eq_some_iff.mp hM
  have hv25 := (Option.some.inj hv25).symm
  have q26 : Steps p.tables e below (s₁.setTop (entryFrame m #[(.ref o0), (.int p1), (.int p2)] 10)) (T16.setTop (mkF m 54 #[.val (.ref o0), .val (.int p1), .val (.int p2), .val (.int r2.1), .val (.int r6.1), .val (.int v13), .val (.int v19), .unset, .unset, .unset] [(.int v25)])) := by
    refine q21.trans ?_
    show Steps p.tables e below (T16.setTop (mkF m 33 #[.val (.ref o0), .val (.int p1), .val (.int p2), .val (.int r2.1), .val (.int r6.1), .val (.int v13), .val (.int v19), .unset, .unset, .unset] [(.int (-1 : Int32)), (.int v13)])) _
    by_cases hc22 : v13 = (-1 : Int32)
    · rw [if_pos hc22] at hv25
      refine XS.icmpYes X16.here hx rfl (pc0 := 33) (pc' := 53) rfl (hb hby d4_33) rfl (teq hc22).1 (by decide) (by decide) ?_
      show Steps p.tables e below (T16.setTop (mkF m 53 #[.val (.ref o0), .val (.int p1), .val (.int p2), .val (.int r2.1), .val (.int r6.1), .val (.int v13), .val (.int v19), .unset, .unset, .unset] [])) _
      refine XS.iconst X16.here hx rfl (hb hby d4_53) ?_
      show Steps p.tables e below (T16.setTop (mkF m 54 #[.val (.ref o0), .val (.int p1), .val (.int p2), .val (.int r2.1), .val (.int r6.1), .val (.int v13), .val (.int v19), .unset, .unset, .unset] [(.int (0 : Int32))])) _
      rw [hv25]
      exact Steps.refl _
    · rw [if_neg hc22] at hv25
      refine XS.icmpNo X16.here hx rfl (hb hby d4_33) rfl (feq hc22).1 ?_
      show Steps p.tables e below (T16.setTop (mkF m 36 #[.val (.ref o0), .val (.int p1), .val (.int p2), .val (.int r2.1), .val (.int r6.1), .val (.int v13), .val (.int v19), .unset, .unset, .unset] [])) _
      refine XS.iload X16.here hx rfl (hb hby d4_36) rfl ?_
      show Steps p.tables e below (T16.setTop (mkF m 38 #[.val (.ref o0), .val (.int p1), .val (.int p2), .val (.int r2.1), .val (.int r6.1), .val (.int v13), .val (.int v19), .unset, .unset, .unset] [(.int v19)])) _
      refine XS.iconst X16.here hx rfl (hb hby d4_38) ?_
      show Steps p.tables e below (T16.setTop (mkF m 39 #[.val (.ref o0), .val (.int p1), .val (.int p2), .val (.int r2.1), .val (.int r6.1), .val (.int v13), .val (.int v19), .unset, .unset, .unset] [(.int (-1 : Int32)), (.int v19)])) _
      by_cases hc23 : v19 = (-1 : Int32)
      · rw [if_pos hc23] at hv25
        refine XS.icmpYes X16.here hx rfl (pc0 := 39) (pc' := 53) rfl (hb hby d4_39) rfl (teq hc23).1 (by decide) (by decide) ?_
        show Steps p.tables e below (T16.setTop (mkF m 53 #[.val (.ref o0), .val (.int p1), .val (.int p2), .val (.int r2.1), .val (.int r6.1), .val (.int v13), .val (.int v19), .unset, .unset, .unset] [])) _
        refine XS.iconst X16.here hx rfl (hb hby d4_53) ?_
        show Steps p.tables e below (T16.setTop (mkF m 54 #[.val (.ref o0), .val (.int p1), .val (.int p2), .val (.int r2.1), .val (.int r6.1), .val (.int v13), .val (.int v19), .unset, .unset, .unset] [(.int (0 : Int32))])) _
        rw [hv25]
        exact Steps.refl _
      · rw [if_neg hc23] at hv25
        refine XS.icmpNo X16.here hx rfl (hb hby d4_39) rfl (feq hc23).1 ?_
        show Steps p.tables e below (T16.setTop (mkF m 42 #[.val (.ref o0), .val (.int p1), .val (.int p2), .val (.int r2.1), .val (.int r6.1), .val (.int v13), .val (.int v19), .unset, .unset, .unset] [])) _
        refine XS.iload X16.here hx rfl (hb hby d4_42) rfl ?_
        show Steps p.tables e below (T16.setTop (mkF m 44 #[.val (.ref o0), .val (.int p1), .val (.int p2), .val (.int r2.1), .val (.int r6.1), .val (.int v13), .val (.int v19), .unset, .unset, .unset] [(.int v13)])) _
        refine XS.iload X16.here hx rfl (hb hby d4_44) rfl ?_
        show Steps p.tables e below (T16.setTop (mkF m 46 #[.val (.ref o0), .val (.int p1), .val (.int p2), .val (.int r2.1), .val (.int r6.1), .val (.int v13), .val (.int v19), .unset, .unset, .unset] [(.int v19), (.int v13)])) _
        by_cases hc24 : v13 = v19
        · rw [if_pos hc24] at hv25
          refine XS.icmpYes X16.here hx rfl (pc0 := 46) (pc' := 53) rfl (hb hby d4_46) rfl (teq hc24).1 (by decide) (by decide) ?_
          show Steps p.tables e below (T16.setTop (mkF m 53 #[.val (.ref o0), .val (.int p1), .val (.int p2), .val (.int r2.1), .val (.int r6.1), .val (.int v13), .val (.int v19), .unset, .unset, .unset] [])) _
          refine XS.iconst X16.here hx rfl (hb hby d4_53) ?_
          show Steps p.tables e below (T16.setTop (mkF m 54 #[.val (.ref o0), .val (.int p1), .val (.int p2), .val (.int r2.1), .val (.int r6.1), .val (.int v13), .val (.int v19), .unset, .unset, .unset] [(.int (0 : Int32))])) _
          rw [hv25]
          exact Steps.refl _
        · rw [if_neg hc24] at hv25
          refine XS.icmpNo X16.here hx rfl (hb hby d4_46) rfl (feq hc24).1 ?_
          show Steps p.tables e below (T16.setTop (mkF m 49 #[.val (.ref o0), .val (.int p1), .val (.int p2), .val (.int r2.1), .val (.int r6.1), .val (.int v13), .val (.int v19), .unset, .unset, .unset] [])) _
          refine XS.iconst X16.here hx rfl (hb hby d4_49) ?_
          show Steps p.tables e below (T16.setTop (mkF m 50 #[.val (.ref o0), .val (.int p1), .val (.int p2), .val (.int r2.1), .val (.int r6.1), .val (.int v13), .val (.int v19), .unset, .unset, .unset] [(.int (1 : Int32))])) _
          refine XS.goto X16.here hx rfl (pc0 := 50) (pc' := 54) rfl (hb hby d4_50) (by decide) (by decide) ?_
          show Steps p.tables e below (T16.setTop (mkF m 54 #[.val (.ref o0), .val (.int p1), .val (.int p2), .val (.int r2.1), .val (.int r6.1), .val (.int v13), .val (.int v19), .unset, .unset, .unset] [(.int (1 : Int32))])) _
          rw [hv25]
          exact Steps.refl _
  have q27 : Steps p.tables e below (s₁.setTop (entryFrame m #[(.ref o0), (.int p1), (.int p2)] 10)) (T16.setTop (mkF m 58 #[.val (.ref o0), .val (.int p1), .val (.int p2), .val (.int r2.1), .val (.int r6.1), .val (.int v13), .val (.int v19), .val (.int v25), .unset, .unset] [(.int v25)])) := q26.trans (by
      show Steps p.tables e below (T16.setTop (mkF m 54 #[.val (.ref o0), .val (.int p1), .val (.int p2), .val (.int r2.1), .val (.int r6.1), .val (.int v13), .val (.int v19), .unset, .unset, .unset] [(.int v25)])) _
      refine XS.istore X16.here hx rfl (hb hby d4_54) rfl (l' := #[.val (.ref o0), .val (.int p1), .val (.int p2), .val (.int r2.1), .val (.int r6.1), .val (.int v13), .val (.int v19), .val (.int v25), .unset, .unset]) rfl ?_
      show Steps p.tables e below (T16.setTop (mkF m 56 #[.val (.ref o0), .val (.int p1), .val (.int p2), .val (.int r2.1), .val (.int r6.1), .val (.int v13), .val (.int v19), .val (.int v25), .unset, .unset] [])) _
      refine XS.iload X16.here hx rfl (hb hby d4_56) rfl ?_
      show Steps p.tables e below (T16.setTop (mkF m 58 #[.val (.ref o0), .val (.int p1), .val (.int p2), .val (.int r2.1), .val (.int r6.1), .val (.int v13), .val (.int v19), .val (.int v25), .unset, .unset] [(.int v25)])) _
      exact Steps.refl _)
  by_cases hc30 : v25 = (0 : Int32)
  · rw [if_pos hc30] at hM
    have q31 : Steps p.tables e below (s₁.setTop (entryFrame m #[(.ref o0), (.int p1), (.int p2)] 10)) (T16.setTop (mkF m 61 #[.val (.ref o0), .val (.int p1), .val (.int p2), .val (.int r2.1), .val (.int r6.1), .val (.int v13), .val (.int v19), .val (.int v25), .unset, .unset] [])) := q27.trans (by
        show Steps p.tables e below (T16.setTop (mkF m 58 #[.val (.ref o0), .val (.int p1), .val (.int p2), .val (.int r2.1), .val (.int r6.1), .val (.int v13), .val (.int v19), .val (.int v25), .unset, .unset] [(.int v25)])) _
        refine XS.ifNo X16.here hx rfl (hb hby d4_58) rfl ((if0 _ _).trans (teq hc30).2) ?_
        show Steps p.tables e below (T16.setTop (mkF m 61 #[.val (.ref o0), .val (.int p1), .val (.int p2), .val (.int r2.1), .val (.int r6.1), .val (.int v13), .val (.int v19), .val (.int v25), .unset, .unset] [])) _
        exact Steps.refl _)
    have q32 : Steps p.tables e below (s₁.setTop (entryFrame m #[(.ref o0), (.int p1), (.int p2)] 10)) (T16.setTop (mkF m 64 #[.val (.ref o0), .val (.int p1), .val (.int p2), .val (.int r2.1), .val (.int r6.1), .val (.int v13), .val (.int v19), .val (.int v25), .unset, .unset] [(.int r6.1), (.int r2.1)])) := q31.trans (by
        show Steps p.tables e below (T16.setTop (mkF m 61 #[.val (.ref o0), .val (.int p1), .val (.int p2), .val (.int r2.1), .val (.int r6.1), .val (.int v13), .val (.int v19), .val (.int v25), .unset, .unset] [])) _
        refine XS.iloadN X16.here hx rfl (hb hby d4_61) rfl ?_
        show Steps p.tables e below (T16.setTop (mkF m 62 #[.val (.ref o0), .val (.int p1), .val (.int p2), .val (.int r2.1), .val (.int r6.1), .val (.int v13), .val (.int v19), .val (.int v25), .unset, .unset] [(.int r2.1)])) _
        refine XS.iload X16.here hx rfl (hb hby d4_62) rfl ?_
        show Steps p.tables e below (T16.setTop (mkF m 64 #[.val (.ref o0), .val (.int p1), .val (.int p2), .val (.int r2.1), .val (.int r6.1), .val (.int v13), .val (.int v19), .val (.int v25), .unset, .unset] [(.int r6.1), (.int r2.1)])) _
        exact Steps.refl _)
    by_cases hc34 : r2.1 = r6.1
    · rw [if_pos hc34] at hM
      have q35 : Steps p.tables e below (s₁.setTop (entryFrame m #[(.ref o0), (.int p1), (.int p2)] 10)) (T16.setTop (mkF m 151 #[.val (.ref o0), .val (.int p1), .val (.int p2), .val (.int r2.1), .val (.int r6.1), .val (.int v13), .val (.int v19), .val (.int v25), .unset, .unset] [])) := q32.trans (by
          show Steps p.tables e below (T16.setTop (mkF m 64 #[.val (.ref o0), .val (.int p1), .val (.int p2), .val (.int r2.1), .val (.int r6.1), .val (.int v13), .val (.int v19), .val (.int v25), .unset, .unset] [(.int r6.1), (.int r2.1)])) _
          refine XS.icmpYes X16.here hx rfl (pc0 := 64) (pc' := 151) rfl (hb hby d4_64) rfl (teq hc34).1 (by decide) (by decide) ?_
          show Steps p.tables e below (T16.setTop (mkF m 151 #[.val (.ref o0), .val (.int p1), .val (.int p2), .val (.int r2.1), .val (.int r6.1), .val (.int v13), .val (.int v19), .val (.int v25), .unset, .unset] [])) _
          exact Steps.refl _)
      have q36 : Steps p.tables e below (s₁.setTop (entryFrame m #[(.ref o0), (.int p1), (.int p2)] 10)) (T16.setTop (mkF m 161 #[.val (.ref o0), .val (.int p1), .val (.int p2), .val (.int r2.1), .val (.int r6.1), .val (.int v13), .val (.int v19), .val (.int v25), .unset, .unset] [(.int (1 : Int32))])) := q35.trans (by
          show Steps p.tables e below (T16.setTop (mkF m 151 #[.val (.ref o0), .val (.int p1), .val (.int p2), .val (.int r2.1), .val (.int r6.1), .val (.int v13), .val (.int v19), .val (.int v25), .unset, .unset] [])) _
          refine XS.iload X16.here hx rfl (hb hby d4_151) rfl ?_
          show Steps p.tables e below (T16.setTop (mkF m 153 #[.val (.ref o0), .val (.int p1), .val (.int p2), .val (.int r2.1), .val (.int r6.1), .val (.int v13), .val (.int v19), .val (.int v25), .unset, .unset] [(.int v25)])) _
          refine XS.ifNo X16.here hx rfl (hb hby d4_153) rfl ((if0 _ _).trans (teq hc30).2) ?_
          show Steps p.tables e below (T16.setTop (mkF m 156 #[.val (.ref o0), .val (.int p1), .val (.int p2), .val (.int r2.1), .val (.int r6.1), .val (.int v13), .val (.int v19), .val (.int v25), .unset, .unset] [])) _
          refine XS.iconst X16.here hx rfl (hb hby d4_156) ?_
          show Steps p.tables e below (T16.setTop (mkF m 157 #[.val (.ref o0), .val (.int p1), .val (.int p2), .val (.int r2.1), .val (.int r6.1), .val (.int v13), .val (.int v19), .val (.int v25), .unset, .unset] [(.int (1 : Int32))])) _
          refine XS.goto X16.here hx rfl (pc0 := 157) (pc' := 161) rfl (hb hby d4_157) (by decide) (by decide) ?_
          show Steps p.tables e below (T16.setTop (mkF m 161 #[.val (.ref o0), .val (.int p1), .val (.int p2), .val (.int r2.1), .val (.int r6.1), .val (.int v13), .val (.int v19), .val (.int v25), .unset, .unset] [(.int (1 : Int32))])) _
          exact Steps.refl _)
      obtain rfl := Option.some.inj hM
      obtain ⟨fs, hr, hrun, hended, hW, hsame⟩ := X16.leave (v := some (.int (1 : Int32))) (fun h => by rw [Bd.returns] at h; cases h)
      refine ⟨_, _, q36.trans ?_, hrun, hended, _, _, rfl, ?_, ⟨_, rfl⟩, hW, hsame.mono (by decide) (by decide)⟩
      · exact retN X16 hx (t := .boolean) Bd.returns (by simp) (hb hby d4_161) hr
      · show Q_rmJ Z o0 p1 p2 aP aS aQ xP xS xQ _ h0 n0 _ T16.heap _
        rw [e16]
        exact ⟨rfl, N7, KK7, J7_0, IaS_7, IaQ_7⟩
    · rw [if_neg hc34] at hM
      have q37 : Steps p.tables e below (s₁.setTop (entryFrame m #[(.ref o0), (.int p1), (.int p2)] 10)) (T16.setTop (mkF m 67 #[.val (.ref o0), .val (.int p1), .val (.int p2), .val (.int r2.1), .val (.int r6.1), .val (.int v13), .val (.int v19), .val (.int v25), .unset, .unset] [])) := q32.trans (by
          show Steps p.tables e below (T16.setTop (mkF m 64 #[.val (.ref o0), .val (.int p1), .val (.int p2), .val (.int r2.1), .val (.int r6.1), .val (.int v13), .val (.int v19), .val (.int v25), .unset, .unset] [(.int r6.1), (.int r2.1)])) _
          refine XS.icmpNo X16.here hx rfl (hb hby d4_64) rfl (feq hc34).1 ?_
          show Steps p.tables e below (T16.setTop (mkF m 67 #[.val (.ref o0), .val (.int p1), .val (.int p2), .val (.int r2.1), .val (.int r6.1), .val (.int v13), .val (.int v19), .val (.int v25), .unset, .unset] [])) _
          exact Steps.refl _)
      have q38 : Steps p.tables e below (s₁.setTop (entryFrame m #[(.ref o0), (.int p1), (.int p2)] 10)) (T16.setTop (mkF m 68 #[.val (.ref o0), .val (.int p1), .val (.int p2), .val (.int r2.1), .val (.int r6.1), .val (.int v13), .val (.int v19), .val (.int v25), .unset, .unset] [(.ref o0)])) := q37.trans (by
          show Steps p.tables e below (T16.setTop (mkF m 67 #[.val (.ref o0), .val (.int p1), .val (.int p2), .val (.int r2.1), .val (.int r6.1), .val (.int v13), .val (.int v19), .val (.int v25), .unset, .unset] [])) _
          refine XS.aloadN X16.here hx rfl (hb hby d4_67) rfl rfl ?_
          show Steps p.tables e below (T16.setTop (mkF m 68 #[.val (.ref o0), .val (.int p1), .val (.int p2), .val (.int r2.1), .val (.int r6.1), .val (.int v13), .val (.int v19), .val (.int v25), .unset, .unset] [(.ref o0)])) _
          exact Steps.refl _)
      obtain ⟨T39, X39, e39, st39⟩ := getF X16 hx hZ hown (host := "") (Or.inl (hw _ (List.mem_of_getElem? (i := 12) rfl))) Via.refl e16 Fo0_size_7 (g := (mkF m 68 #[.val (.ref o0), .val (.int p1), .val (.int p2), .val (.int r2.1), .val (.int r6.1), .val (.int v13), .val (.int v19), .val (.int v25), .unset, .unset] [(.ref o0)])) rfl rfl (hb hby d4_68)
      have q40 : Steps p.tables e below (s₁.setTop (entryFrame m #[(.ref o0), (.int p1), (.int p2)] 10)) (T39.setTop (mkF m 71 #[.val (.ref o0), .val (.int p1), .val (.int p2), .val (.int r2.1), .val (.int r6.1), .val (.int v13), .val (.int v19), .val (.int v25), .unset, .unset] [(.ref aS)])) := q38.trans (st39 _ (Steps.refl _))
      have q41 : Steps p.tables e below (s₁.setTop (entryFrame m #[(.ref o0), (.int p1), (.int p2)] 10)) (T39.setTop (mkF m 72 #[.val (.ref o0), .val (.int p1), .val (.int p2), .val (.int r2.1), .val (.int r6.1), .val (.int v13), .val (.int v19), .val (.int v25), .unset, .unset] [(.int r2.1), (.ref aS)])) := q40.trans (by
          show Steps p.tables e below (T39.setTop (mkF m 71 #[.val (.ref o0), .val (.int p1), .val (.int p2), .val (.int r2.1), .val (.int r6.1), .val (.int v13), .val (.int v19), .val (.int v25), .unset, .unset] [(.ref aS)])) _
          refine XS.iloadN X39.here hx rfl (hb hby d4_71) rfl ?_
          show Steps p.tables e below (T39.setTop (mkF m 72 #[.val (.ref o0), .val (.int p1), .val (.int p2), .val (.int r2.1), .val (.int r6.1), .val (.int v13), .val (.int v19), .val (.int v25), .unset, .unset] [(.int r2.1), (.ref aS)])) _
          exact Steps.refl _)
      obtain ⟨v42, hv42, hM⟩ := Option.bind_eq_some_iff.mp hM
      have q43 : Steps p.tables e below (s₁.setTop (entryFrame m #[(.ref o0), (.int p1), (.int p2)] 10)) (T39.setTop (mkF m 73 #[.val (.ref o0), .val (.int p1), .val (.int p2), .val (.int r2.1), .val (.int r6.1), .val (.int v13), .val (.int v19), .val (.int v25), .unset, .unset] [(.int v42)])) := q41.trans (Own.ldO X39 hx hZ e39 IaS_7 hv42 (g := (mkF m 72 #[.val (.ref o0), .val (.int p1), .val (.int p2), .val (.int r2.1), .val (.int r6.1), .val (.int v13), .val (.int v19), .val (.int v25), .unset, .unset] [(.int r2.1), (.ref aS)])) rfl rfl (hb hby d4_72) _ (Steps.refl _))
      have q44 : Steps p.tables e below (s₁.setTop (entryFrame m #[(.ref o0), (.int p1), (.int p2)] 10)) (T39.setTop (mkF m 74 #[.val (.ref o0), .val (.int p1), .val (.int p2), .val (.int r2.1), .val (.int r6.1), .val (.int v13), .val (.int v19), .val (.int v25), .unset, .unset] [(.ref o0), (.int v42)])) := q43.trans (by
          show Steps p.tables e below (T39.setTop (mkF m 73 #[.val (.ref o0), .val (.int p1), .val (.int p2), .val (.int r2.1), .val (.int r6.1), .val (.int v13), .val (.int v19), .val (.int v25), .unset, .unset] [(.int v42)])) _
          refine XS.aloadN X39.here hx rfl (hb hby d4_73) rfl rfl ?_
          show Steps p.tables e below (T39.setTop (mkF m 74 #[.val (.ref o0), .val (.int p1), .val (.int p2), .val (.int r2.1), .val (.int r6.1), .val (.int v13), .val (.int v19), .val (.int v25), .unset, .unset] [(.ref o0), (.int v42)])) _
          exact Steps.refl _)
      obtain ⟨T45, X45, e45, st45⟩ := getF X39 hx hZ hown (host := "") (Or.inl (hw _ (List.mem_of_getElem? (i := 12) rfl))) Via.refl e39 Fo0_size_7 (g := (mkF m 74 #[.val (.ref o0), .val (.int p1), .val (.int p2), .val (.int r2.1), .val (.int r6.1), .val (.int v13), .val (.int v19), .val (.int v25), .unset, .unset] [(.ref o0), (.int v42)])) rfl rfl (hb hby d4_74)
      have q46 : Steps p.tables e below (s₁.setTop (entryFrame m #[(.ref o0), (.int p1), (.int p2)] 10)) (T45.setTop (mkF m 77 #[.val (.ref o0), .val (.int p1), .val (.int p2), .val (.int r2.1), .val (.int r6.1), .val (.int v13), .val (.int v19), .val (.int v25), .unset, .unset] [(.ref aS), (.int v42)])) := q44.trans (st45 _ (Steps.refl _))
      have q47 : Steps p.tables e below (s₁.setTop (entryFrame m #[(.ref o0), (.int p1), (.int p2)] 10)) (T45.setTop (mkF m 79 #[.val (.ref o0), .val (.int p1), .val (.int p2), .val (.int r2.1), .val (.int r6.1), .val (.int v13), .val (.int v19), .val (.int v25), .unset, .unset] [(.int r6.1), (.ref aS), (.int v42)])) := q46.trans (by
          show Steps p.tables e below (T45.setTop (mkF m 77 #[.val (.ref o0), .val (.int p1), .val (.int p2), .val (.int r2.1), .val (.int r6.1), .val (.int v13), .val (.int v19), .val (.int v25), .unset, .unset] [(.ref aS), (.int v42)])) _
          refine XS.iload X45.here hx rfl (hb hby d4_77) rfl ?_
          show Steps p.tables e below (T45.setTop (mkF m 79 #[.val (.ref o0), .val (.int p1), .val (.int p2), .val (.int r2.1), .val (.int r6.1), .val (.int v13), .val (.int v19), .val (.int v25), .unset, .unset] [(.int r6.1), (.ref aS), (.int v42)])) _
          exact Steps.refl _)
      obtain ⟨v48, hv48, hM⟩ := Option.bind_eq_some_iff.mp hM
      have q49 : Steps p.tables e below (s₁.setTop (entryFrame m #[(.ref o0), (.int p1), (.int p2)] 10)) (T45.setTop (mkF m 80 #[.val (.ref o0), .val (.int p1), .val (.int p2), .val (.int r2.1), .val (.int r6.1), .val (.int v13), .val (.int v19), .val (.int v25), .unset, .unset] [(.int v48), (.int v42)])) := q47.trans (Own.ldO X45 hx hZ e45 IaS_7 hv48 (g := (mkF m 79 #[.val (.ref o0), .val (.int p1), .val (.int p2), .val (.int r2.1), .val (.int r6.1), .val (.int v13), .val (.int v19), .val (.int v25), .unset, .unset] [(.int r6.1), (.ref aS), (.int v42)])) rfl rfl (hb hby d4_79) _ (Steps.refl _))
      obtain ⟨v51, hv51, hM⟩ := Option.bind_eq_some_iff.mp hM
      have hv51 := (Option.some.inj hv51).symm
      have q52 : Steps p.tables e below (s₁.setTop (entryFrame m #[(.ref o0), (.int p1), (.int p2)] 10)) (T45.setTop (mkF m 89 #[.val (.ref o0), .val (.int p1), .val (.int p2), .val (.int r2.1), .val (.int r6.1), .val (.int v13), .val (.int v19), .val (.int v25), .unset, .unset] [(.int v51)])) := by
        refine q49.trans ?_
        show Steps p.tables e below (T45.setTop (mkF m 80 #[.val (.ref o0), .val (.int p1), .val (.int p2), .val (.int r2.1), .val (.int r6.1), .val (.int v13), .val (.int v19), .val (.int v25), .unset, .unset] [(.int v48), (.int v42)])) _
        by_cases hc50 : v42 < v48
        · rw [if_pos hc50] at hv51
          refine XS.icmpYes X45.here hx rfl (pc0 := 80) (pc' := 87) rfl (hb hby d4_80) rfl (tlt hc50).1 (by decide) (by decide) ?_
          show Steps p.tables e below (T45.setTop (mkF m 87 #[.val (.ref o0), .val (.int p1), .val (.int p2), .val (.int r2.1), .val (.int r6.1), .val (.int v13), .val (.int v19), .val (.int v25), .unset, .unset] [])) _
          refine XS.iload X45.here hx rfl (hb hby d4_87) rfl ?_
          show Steps p.tables e below (T45.setTop (mkF m 89 #[.val (.ref o0), .val (.int p1), .val (.int p2), .val (.int r2.1), .val (.int r6.1), .val (.int v13), .val (.int v19), .val (.int v25), .unset, .unset] [(.int r6.1)])) _
          rw [hv51]
          exact Steps.refl _
        · rw [if_neg hc50] at hv51
          refine XS.icmpNo X45.here hx rfl (hb hby d4_80) rfl (flt hc50).1 ?_
          show Steps p.tables e below (T45.setTop (mkF m 83 #[.val (.ref o0), .val (.int p1), .val (.int p2), .val (.int r2.1), .val (.int r6.1), .val (.int v13), .val (.int v19), .val (.int v25), .unset, .unset] [])) _
          refine XS.iloadN X45.here hx rfl (hb hby d4_83) rfl ?_
          show Steps p.tables e below (T45.setTop (mkF m 84 #[.val (.ref o0), .val (.int p1), .val (.int p2), .val (.int r2.1), .val (.int r6.1), .val (.int v13), .val (.int v19), .val (.int v25), .unset, .unset] [(.int r2.1)])) _
          refine XS.goto X45.here hx rfl (pc0 := 84) (pc' := 89) rfl (hb hby d4_84) (by decide) (by decide) ?_
          show Steps p.tables e below (T45.setTop (mkF m 89 #[.val (.ref o0), .val (.int p1), .val (.int p2), .val (.int r2.1), .val (.int r6.1), .val (.int v13), .val (.int v19), .val (.int v25), .unset, .unset] [(.int r2.1)])) _
          rw [hv51]
          exact Steps.refl _
      have q53 : Steps p.tables e below (s₁.setTop (entryFrame m #[(.ref o0), (.int p1), (.int p2)] 10)) (T45.setTop (mkF m 94 #[.val (.ref o0), .val (.int p1), .val (.int p2), .val (.int r2.1), .val (.int r6.1), .val (.int v13), .val (.int v19), .val (.int v25), .val (.int v51), .unset] [(.int r2.1), (.int v51)])) := q52.trans (by
          show Steps p.tables e below (T45.setTop (mkF m 89 #[.val (.ref o0), .val (.int p1), .val (.int p2), .val (.int r2.1), .val (.int r6.1), .val (.int v13), .val (.int v19), .val (.int v25), .unset, .unset] [(.int v51)])) _
          refine XS.istore X45.here hx rfl (hb hby d4_89) rfl (l' := #[.val (.ref o0), .val (.int p1), .val (.int p2), .val (.int r2.1), .val (.int r6.1), .val (.int v13), .val (.int v19), .val (.int v25), .val (.int v51), .unset]) rfl ?_
          show Steps p.tables e below (T45.setTop (mkF m 91 #[.val (.ref o0), .val (.int p1), .val (.int p2), .val (.int r2.1), .val (.int r6.1), .val (.int v13), .val (.int v19), .val (.int v25), .val (.int v51), .unset] [])) _
          refine XS.iload X45.here hx rfl (hb hby d4_91) rfl ?_
          show Steps p.tables e below (T45.setTop (mkF m 93 #[.val (.ref o0), .val (.int p1), .val (.int p2), .val (.int r2.1), .val (.int r6.1), .val (.int v13), .val (.int v19), .val (.int v25), .val (.int v51), .unset] [(.int v51)])) _
          refine XS.iloadN X45.here hx rfl (hb hby d4_93) rfl ?_
          show Steps p.tables e below (T45.setTop (mkF m 94 #[.val (.ref o0), .val (.int p1), .val (.int p2), .val (.int r2.1), .val (.int r6.1), .val (.int v13), .val (.int v19), .val (.int v25), .val (.int v51), .unset] [(.int r2.1), (.int v51)])) _
          exact Steps.refl _)
      obtain ⟨v55, hv55, hM⟩ := Option.bind_eq_some_iff.mp hM
      have hv55 := (Option.some.inj hv55).symm
      have q56 : Steps p.tables e below (s₁.setTop (entryFrame m #[(.ref o0), (.int p1), (.int p2)] 10)) (T45.setTop (mkF m 103 #[.val (.ref o0), .val (.int p1), .val (.int p2), .val (.int r2.1), .val (.int r6.1), .val (.int v13), .val (.int v19), .val (.int v25), .val (.int v51), .unset] [(.int v55)])) := by
        refine q53.trans ?_
        show Steps p.tables e below (T45.setTop (mkF m 94 #[.val (.ref o0), .val (.int p1), .val (.int p2), .val (.int r2.1), .val (.int r6.1), .val (.int v13), .val (.int v19), .val (.int v25), .val (.int v51), .unset] [(.int r2.1), (.int v51)])) _
        by_cases hc54 : v51 = r2.1
        · rw [if_pos hc54] at hv55
          refine XS.icmpNo X45.here hx rfl (hb hby d4_94) rfl (teq hc54).2 ?_
          show Steps p.tables e below (T45.setTop (mkF m 97 #[.val (.ref o0), .val (.int p1), .val (.int p2), .val (.int r2.1), .val (.int r6.1), .val (.int v13), .val (.int v19), .val (.int v25), .val (.int v51), .unset] [])) _
          refine XS.iload X45.here hx rfl (hb hby d4_97) rfl ?_
          show Steps p.tables e below (T45.setTop (mkF m 99 #[.val (.ref o0), .val (.int p1), .val (.int p2), .val (.int r2.1), .val (.int r6.1), .val (.int v13), .val (.int v19), .val (.int v25), .val (.int v51), .unset] [(.int r6.1)])) _
          refine XS.goto X45.here hx rfl (pc0 := 99) (pc' := 103) rfl (hb hby d4_99) (by decide) (by decide) ?_
          show Steps p.tables e below (T45.setTop (mkF m 103 #[.val (.ref o0), .val (.int p1), .val (.int p2), .val (.int r2.1), .val (.int r6.1), .val (.int v13), .val (.int v19), .val (.int v25), .val (.int v51), .unset] [(.int r6.1)])) _
          rw [hv55]
          exact Steps.refl _
        · rw [if_neg hc54] at hv55
          refine XS.icmpYes X45.here hx rfl (pc0 := 94) (pc' := 102) rfl (hb hby d4_94) rfl (feq hc54).2 (by decide) (by decide) ?_
          show Steps p.tables e below (T45.setTop (mkF m 102 #[.val (.ref o0), .val (.int p1), .val (.int p2), .val (.int r2.1), .val (.int r6.1), .val (.int v13), .val (.int v19), .val (.int v25), .val (.int v51), .unset] [])) _
          refine XS.iloadN X45.here hx rfl (hb hby d4_102) rfl ?_
          show Steps p.tables e below (T45.setTop (mkF m 103 #[.val (.ref o0), .val (.int p1), .val (.int p2), .val (.int r2.1), .val (.int r6.1), .val (.int v13), .val (.int v19), .val (.int v25), .val (.int v51), .unset] [(.int r2.1)])) _
          rw [hv55]
          exact Steps.refl _
      have q57 : Steps p.tables e below (s₁.setTop (entryFrame m #[(.ref o0), (.int p1), (.int p2)] 10)) (T45.setTop (mkF m 106 #[.val (.ref o0), .val (.int p1), .val (.int p2), .val (.int r2.1), .val (.int r6.1), .val (.int v13), .val (.int v19), .val (.int v25), .val (.int v51), .val (.int v55)] [(.ref o0)])) := q56.trans (by
          show Steps p.tables e below (T45.setTop (mkF m 103 #[.val (.ref o0), .val (.int p1), .val (.int p2), .val (.int r2.1), .val (.int r6.1), .val (.int v13), .val (.int v19), .val (.int v25), .val (.int v51), .unset] [(.int v55)])) _
          refine XS.istore X45.here hx rfl (hb hby d4_103) rfl (l' := #[.val (.ref o0), .val (.int p1), .val (.int p2), .val (.int r2.1), .val (.int r6.1), .val (.int v13), .val (.int v19), .val (.int v25), .val (.int v51), .val (.int v55)]) rfl ?_
          show Steps p.tables e below (T45.setTop (mkF m 105 #[.val (.ref o0), .val (.int p1), .val (.int p2), .val (.int r2.1), .val (.int r6.1), .val (.int v13), .val (.int v19), .val (.int v25), .val (.int v51), .val (.int v55)] [])) _
          refine XS.aloadN X45.here hx rfl (hb hby d4_105) rfl rfl ?_
          show Steps p.tables e below (T45.setTop (mkF m 106 #[.val (.ref o0), .val (.int p1), .val (.int p2), .val (.int r2.1), .val (.int r6.1), .val (.int v13), .val (.int v19), .val (.int v25), .val (.int v51), .val (.int v55)] [(.ref o0)])) _
          exact Steps.refl _)
      obtain ⟨T58, X58, e58, st58⟩ := getF X45 hx hZ hown (host := "") (Or.inl (hw _ (List.mem_of_getElem? (i := 10) rfl))) Via.refl e45 Fo0_parent_7 (g := (mkF m 106 #[.val (.ref o0), .val (.int p1), .val (.int p2), .val (.int r2.1), .val (.int r6.1), .val (.int v13), .val (.int v19), .val (.int v25), .val (.int v51), .val (.int v55)] [(.ref o0)])) rfl rfl (hb hby d4_106)
      have q59 : Steps p.tables e below (s₁.setTop (entryFrame m #[(.ref o0), (.int p1), (.int p2)] 10)) (T58.setTop (mkF m 109 #[.val (.ref o0), .val (.int p1), .val (.int p2), .val (.int r2.1), .val (.int r6.1), .val (.int v13), .val (.int v19), .val (.int v25), .val (.int v51), .val (.int v55)] [(.ref aP)])) := q57.trans (st58 _ (Steps.refl _))
      have q60 : Steps p.tables e below (s₁.setTop (entryFrame m #[(.ref o0), (.int p1), (.int p2)] 10)) (T58.setTop (mkF m 113 #[.val (.ref o0), .val (.int p1), .val (.int p2), .val (.int r2.1), .val (.int r6.1), .val (.int v13), .val (.int v19), .val (.int v25), .val (.int v51), .val (.int v55)] [(.int v51), (.int v55), (.ref aP)])) := q59.trans (by
          show Steps p.tables e below (T58.setTop (mkF m 109 #[.val (.ref o0), .val (.int p1), .val (.int p2), .val (.int r2.1), .val (.int r6.1), .val (.int v13), .val (.int v19), .val (.int v25), .val (.int v51), .val (.int v55)] [(.ref aP)])) _
          refine XS.iload X58.here hx rfl (hb hby d4_109) rfl ?_
          show Steps p.tables e below (T58.setTop (mkF m 111 #[.val (.ref o0), .val (.int p1), .val (.int p2), .val (.int r2.1), .val (.int r6.1), .val (.int v13), .val (.int v19), .val (.int v25), .val (.int v51), .val (.int v55)] [(.int v55), (.ref aP)])) _
          refine XS.iload X58.here hx rfl (hb hby d4_111) rfl ?_
          show Steps p.tables e below (T58.setTop (mkF m 113 #[.val (.ref o0), .val (.int p1), .val (.int p2), .val (.int r2.1), .val (.int r6.1), .val (.int v13), .val (.int v19), .val (.int v25), .val (.int v51), .val (.int v55)] [(.int v51), (.int v55), (.ref aP)])) _
          exact Steps.refl _)
      obtain ⟨y61, hy61, hM⟩ := Option.bind_eq_some_iff.mp hM
      obtain ⟨T62, h62, X62, e62, W62, J62, st62⟩ := Own.stO X58 hx hZ e58 J7_0 hy61 (g := (mkF m 113 #[.val (.ref o0), .val (.int p1), .val (.int p2), .val (.int r2.1), .val (.int r6.1), .val (.int v13), .val (.int v19), .val (.int v25), .val (.int v51), .val (.int v55)] [(.int v51), (.int v55), (.ref aP)])) rfl rfl (hb hby d4_113)
      have N62 := Fr.snoc X62 N7 ge_aP
      have IaS_62 := IaS_7.other W62 (Ne.symm ne_aP_aS)
      have IaQ_62 := IaQ_7.other W62 (Ne.symm ne_aP_aQ)
      have Xo0_62 := Xo0_7.wr W62
      have Fo0_parent_62 := Fo0_parent_7.other W62 (Or.inl ne_o0_aP)
      have Fo0_size_62 := Fo0_size_7.other W62 (Or.inl ne_o0_aP)
      have Fo0_parallelism_62 := Fo0_parallelism_7.other W62 (Or.inl ne_o0_aP)
      have Z62 : n0 ≤ h62.size := Own.size_wr W62 Z7
      have K62 : Keep h0 h62 [aP, aS, aQ] := KK7.wr W62 (Or.inl (List.mem_of_getElem? (i := 0) rfl))
      have q63 : Steps p.tables e below (s₁.setTop (entryFrame m #[(.ref o0), (.int p1), (.int p2)] 10)) (T62.setTop (mkF m 114 #[.val (.ref o0), .val (.int p1), .val (.int p2), .val (.int r2.1), .val (.int r6.1), .val (.int v13), .val (.int v19), .val (.int v25), .val (.int v51), .val (.int v55)] [])) := q60.trans (st62 _ (Steps.refl _))
      have q64 : Steps p.tables e below (s₁.setTop (entryFrame m #[(.ref o0), (.int p1), (.int p2)] 10)) (T62.setTop (mkF m 115 #[.val (.ref o0), .val (.int p1), .val (.int p2), .val (.int r2.1), .val (.int r6.1), .val (.int v13), .val (.int v19), .val (.int v25), .val (.int v51), .val (.int v55)] [(.ref o0)])) := q63.trans (by
          show Steps p.tables e below (T62.setTop (mkF m 114 #[.val (.ref o0), .val (.int p1), .val (.int p2), .val (.int r2.1), .val (.int r6.1), .val (.int v13), .val (.int v19), .val (.int v25), .val (.int v51), .val (.int v55)] [])) _
          refine XS.aloadN X62.here hx rfl (hb hby d4_114) rfl rfl ?_
          show Steps p.tables e below (T62.setTop (mkF m 115 #[.val (.ref o0), .val (.int p1), .val (.int p2), .val (.int r2.1), .val (.int r6.1), .val (.int v13), .val (.int v19), .val (.int v25), .val (.int v51), .val (.int v55)] [(.ref o0)])) _
          exact Steps.refl _)
      obtain ⟨T65, X65, e65, st65⟩ := getF X62 hx hZ hown (host := "") (Or.inl (hw _ (List.mem_of_getElem? (i := 12) rfl))) Via.refl e62 Fo0_size_62 (g := (mkF m 115 #[.val (.ref o0), .val (.int p1), .val (.int p2), .val (.int r2.1), .val (.int r6.1), .val (.int v13), .val (.int v19), .val (.int v25), .val (.int v51), .val (.int v55)] [(.ref o0)])) rfl rfl (hb hby d4_115)
      have q66 : Steps p.tables e below (s₁.setTop (entryFrame m #[(.ref o0), (.int p1), (.int p2)] 10)) (T65.setTop (mkF m 118 #[.val (.ref o0), .val (.int p1), .val (.int p2), .val (.int r2.1), .val (.int r6.1), .val (.int v13), .val (.int v19), .val (.int v25), .val (.int v51), .val (.int v55)] [(.ref aS)])) := q64.trans (st65 _ (Steps.refl _))
      have q67 : Steps p.tables e below (s₁.setTop (entryFrame m #[(.ref o0), (.int p1), (.int p2)] 10)) (T65.setTop (mkF m 121 #[.val (.ref o0), .val (.int p1), .val (.int p2), .val (.int r2.1), .val (.int r6.1), .val (.int v13), .val (.int v19), .val (.int v25), .val (.int v51), .val (.int v55)] [(.int v51), (.ref aS), (.int v51), (.ref aS)])) := q66.trans (by
          show Steps p.tables e below (T65.setTop (mkF m 118 #[.val (.ref o0), .val (.int p1), .val (.int p2), .val (.int r2.1), .val (.int r6.1), .val (.int v13), .val (.int v19), .val (.int v25), .val (.int v51), .val (.int v55)] [(.ref aS)])) _
          refine XS.iload X65.here hx rfl (hb hby d4_118) rfl ?_
          show Steps p.tables e below (T65.setTop (mkF m 120 #[.val (.ref o0), .val (.int p1), .val (.int p2), .val (.int r2.1), .val (.int r6.1), .val (.int v13), .val (.int v19), .val (.int v25), .val (.int v51), .val (.int v55)] [(.int v51), (.ref aS)])) _
          refine XT.dup2 X65.here hx rfl (hb hby d4_120) rfl rfl rfl ?_
          show Steps p.tables e below (T65.setTop (mkF m 121 #[.val (.ref o0), .val (.int p1), .val (.int p2), .val (.int r2.1), .val (.int r6.1), .val (.int v13), .val (.int v19), .val (.int v25), .val (.int v51), .val (.int v55)] [(.int v51), (.ref aS), (.int v51), (.ref aS)])) _
          exact Steps.refl _)
      obtain ⟨v68, hv68, hM⟩ := Option.bind_eq_some_iff.mp hM
      have q69 : Steps p.tables e below (s₁.setTop (entryFrame m #[(.ref o0), (.int p1), (.int p2)] 10)) (T65.setTop (mkF m 122 #[.val (.ref o0), .val (.int p1), .val (.int p2), .val (.int r2.1), .val (.int r6.1), .val (.int v13), .val (.int v19), .val (.int v25), .val (.int v51), .val (.int v55)] [(.int v68), (.int v51), (.ref aS)])) := q67.trans (Own.ldO X65 hx hZ e65 IaS_62 hv68 (g := (mkF m 121 #[.val (.ref o0), .val (.int p1), .val (.int p2), .val (.int r2.1), .val (.int r6.1), .val (.int v13), .val (.int v19), .val (.int v25), .val (.int v51), .val (.int v55)] [(.int v51), (.ref aS), (.int v51), (.ref aS)])) rfl rfl (hb hby d4_121) _ (Steps.refl _))
      have q70 : Steps p.tables e below (s₁.setTop (entryFrame m #[(.ref o0), (.int p1), (.int p2)] 10)) (T65.setTop (mkF m 123 #[.val (.ref o0), .val (.int p1), .val (.int p2), .val (.int r2.1), .val (.int r6.1), .val (.int v13), .val (.int v19), .val (.int v25), .val (.int v51), .val (.int v55)] [(.ref o0), (.int v68), (.int v51), (.ref aS)])) := q69.trans (by
          show Steps p.tables e below (T65.setTop (mkF m 122 #[.val (.ref o0), .val (.int p1), .val (.int p2), .val (.int r2.1), .val (.int r6.1), .val (.int v13), .val (.int v19), .val (.int v25), .val (.int v51), .val (.int v55)] [(.int v68), (.int v51), (.ref aS)])) _
          refine XS.aloadN X65.here hx rfl (hb hby d4_122) rfl rfl ?_
          show Steps p.tables e below (T65.setTop (mkF m 123 #[.val (.ref o0), .val (.int p1), .val (.int p2), .val (.int r2.1), .val (.int r6.1), .val (.int v13), .val (.int v19), .val (.int v25), .val (.int v51), .val (.int v55)] [(.ref o0), (.int v68), (.int v51), (.ref aS)])) _
          exact Steps.refl _)
      obtain ⟨T71, X71, e71, st71⟩ := getF X65 hx hZ hown (host := "") (Or.inl (hw _ (List.mem_of_getElem? (i := 12) rfl))) Via.refl e65 Fo0_size_62 (g := (mkF m 123 #[.val (.ref o0), .val (.int p1), .val (.int p2), .val (.int r2.1), .val (.int r6.1), .val (.int v13), .val (.int v19), .val (.int v25), .val (.int v51), .val (.int v55)] [(.ref o0), (.int v68), (.int v51), (.ref aS)])) rfl rfl (hb hby d4_123)
      have q72 : Steps p.tables e below (s₁.setTop (entryFrame m #[(.ref o0), (.int p1), (.int p2)] 10)) (T71.setTop (mkF m 126 #[.val (.ref o0), .val (.int p1), .val (.int p2), .val (.int r2.1), .val (.int r6.1), .val (.int v13), .val (.int v19), .val (.int v25), .val (.int v51), .val (.int v55)] [(.ref aS), (.int v68), (.int v51), (.ref aS)])) := q70.trans (st71 _ (Steps.refl _))
      have q73 : Steps p.tables e below (s₁.setTop (entryFrame m #[(.ref o0), (.int p1), (.int p2)] 10)) (T71.setTop (mkF m 128 #[.val (.ref o0), .val (.int p1), .val (.int p2), .val (.int r2.1), .val (.int r6.1), .val (.int v13), .val (.int v19), .val (.int v25), .val (.int v51), .val (.int v55)] [(.int v55), (.ref aS), (.int v68), (.int v51), (.ref aS)])) := q72.trans (by
          show Steps p.tables e below (T71.setTop (mkF m 126 #[.val (.ref o0), .val (.int p1), .val (.int p2), .val (.int r2.1), .val (.int r6.1), .val (.int v13), .val (.int v19), .val (.int v25), .val (.int v51), .val (.int v55)] [(.ref aS), (.int v68), (.int v51), (.ref aS)])) _
          refine XS.iload X71.here hx rfl (hb hby d4_126) rfl ?_
          show Steps p.tables e below (T71.setTop (mkF m 128 #[.val (.ref o0), .val (.int p1), .val (.int p2), .val (.int r2.1), .val (.int r6.1), .val (.int v13), .val (.int v19), .val (.int v25), .val (.int v51), .val (.int v55)] [(.int v55), (.ref aS), (.int v68), (.int v51), (.ref aS)])) _
          exact Steps.refl _)
      obtain ⟨v74, hv74, hM⟩ := Option.bind_eq_some_iff.mp hM
      have q75 : Steps p.tables e below (s₁.setTop (entryFrame m #[(.ref o0), (.int p1), (.int p2)] 10)) (T71.setTop (mkF m 129 #[.val (.ref o0), .val (.int p1), .val (.int p2), .val (.int r2.1), .val (.int r6.1), .val (.int v13), .val (.int v19), .val (.int v25), .val (.int v51), .val (.int v55)] [(.int v74), (.int v68), (.int v51), (.ref aS)])) := q73.trans (Own.ldO X71 hx hZ e71 IaS_62 hv74 (g := (mkF m 128 #[.val (.ref o0), .val (.int p1), .val (.int p2), .val (.int r2.1), .val (.int r6.1), .val (.int v13), .val (.int v19), .val (.int v25), .val (.int v51), .val (.int v55)] [(.int v55), (.ref aS), (.int v68), (.int v51), (.ref aS)])) rfl rfl (hb hby d4_128) _ (Steps.refl _))
      have q76 : Steps p.tables e below (s₁.setTop (entryFrame m #[(.ref o0), (.int p1), (.int p2)] 10)) (T71.setTop (mkF m 130 #[.val (.ref o0), .val (.int p1), .val (.int p2), .val (.int r2.1), .val (.int r6.1), .val (.int v13), .val (.int v19), .val (.int v25), .val (.int v51), .val (.int v55)] [(.int (v68 + v74)), (.int v51), (.ref aS)])) := q75.trans (by
          show Steps p.tables e below (T71.setTop (mkF m 129 #[.val (.ref o0), .val (.int p1), .val (.int p2), .val (.int r2.1), .val (.int r6.1), .val (.int v13), .val (.int v19), .val (.int v25), .val (.int v51), .val (.int v55)] [(.int v74), (.int v68), (.int v51), (.ref aS)])) _
          refine XS.iadd X71.here hx rfl (hb hby d4_129) rfl ?_
          show Steps p.tables e below (T71.setTop (mkF m 130 #[.val (.ref o0), .val (.int p1), .val (.int p2), .val (.int r2.1), .val (.int r6.1), .val (.int v13), .val (.int v19), .val (.int v25), .val (.int v51), .val (.int v55)] [(.int (v68 + v74)), (.int v51), (.ref aS)])) _
          exact Steps.refl _)
      obtain ⟨y77, hy77, hM⟩ := Option.bind_eq_some_iff.mp hM
      obtain ⟨T78, h78, X78, e78, W78, J78, st78⟩ := Own.stO X71 hx hZ e71 IaS_62 hy77 (g := (mkF m 130 #[.val (.ref o0), .val (.int p1), .val (.int p2), .val (.int r2.1), .val (.int r6.1), .val (.int v13), .val (.int v19), .val (.int v25), .val (.int v51), .val (.int v55)] [(.int (v68 + v74)), (.int v51), (.ref aS)])) rfl rfl (hb hby d4_130)
      have N78 := Fr.snoc X78 N62 ge_aS
      have IaP_78 := J62.other W78 ne_aP_aS
      have IaQ_78 := IaQ_62.other W78 (Ne.symm ne_aS_aQ)
      have Xo0_78 := Xo0_62.wr W78
      have Fo0_parent_78 := Fo0_parent_62.other W78 (Or.inl ne_o0_aS)
      have Fo0_size_78 := Fo0_size_62.other W78 (Or.inl ne_o0_aS)
      have Fo0_parallelism_78 := Fo0_parallelism_62.other W78 (Or.inl ne_o0_aS)
      have Z78 : n0 ≤ h78.size := Own.size_wr W78 Z62
      have K78 : Keep h0 h78 [aP, aS, aQ] := K62.wr W78 (Or.inl (List.mem_of_getElem? (i := 1) rfl))
      have q79 : Steps p.tables e below (s₁.setTop (entryFrame m #[(.ref o0), (.int p1), (.int p2)] 10)) (T78.setTop (mkF m 131 #[.val (.ref o0), .val (.int p1), .val (.int p2), .val (.int r2.1), .val (.int r6.1), .val (.int v13), .val (.int v19), .val (.int v25), .val (.int v51), .val (.int v55)] [])) := q76.trans (st78 _ (Steps.refl _))
      have q80 : Steps p.tables e below (s₁.setTop (entryFrame m #[(.ref o0), (.int p1), (.int p2)] 10)) (T78.setTop (mkF m 132 #[.val (.ref o0), .val (.int p1), .val (.int p2), .val (.int r2.1), .val (.int r6.1), .val (.int v13), .val (.int v19), .val (.int v25), .val (.int v51), .val (.int v55)] [(.ref o0)])) := q79.trans (by
          show Steps p.tables e below (T78.setTop (mkF m 131 #[.val (.ref o0), .val (.int p1), .val (.int p2), .val (.int r2.1), .val (.int r6.1), .val (.int v13), .val (.int v19), .val (.int v25), .val (.int v51), .val (.int v55)] [])) _
          refine XS.aloadN X78.here hx rfl (hb hby d4_131) rfl rfl ?_
          show Steps p.tables e below (T78.setTop (mkF m 132 #[.val (.ref o0), .val (.int p1), .val (.int p2), .val (.int r2.1), .val (.int r6.1), .val (.int v13), .val (.int v19), .val (.int v25), .val (.int v51), .val (.int v55)] [(.ref o0)])) _
          exact Steps.refl _)
      obtain ⟨T81, X81, e81, st81⟩ := getF X78 hx hZ hown (host := "") (Or.inl (hw _ (List.mem_of_getElem? (i := 14) rfl))) Via.refl e78 Fo0_parallelism_78 (g := (mkF m 132 #[.val (.ref o0), .val (.int p1), .val (.int p2), .val (.int r2.1), .val (.int r6.1), .val (.int v13), .val (.int v19), .val (.int v25), .val (.int v51), .val (.int v55)] [(.ref o0)])) rfl rfl (hb hby d4_132)
      have q82 : Steps p.tables e below (s₁.setTop (entryFrame m #[(.ref o0), (.int p1), (.int p2)] 10)) (T81.setTop (mkF m 135 #[.val (.ref o0), .val (.int p1), .val (.int p2), .val (.int r2.1), .val (.int r6.1), .val (.int v13), .val (.int v19), .val (.int v25), .val (.int v51), .val (.int v55)] [(.ref aQ)])) := q80.trans (st81 _ (Steps.refl _))
      have q83 : Steps p.tables e below (s₁.setTop (entryFrame m #[(.ref o0), (.int p1), (.int p2)] 10)) (T81.setTop (mkF m 140 #[.val (.ref o0), .val (.int p1), .val (.int p2), .val (.int r2.1), .val (.int r6.1), .val (.int v13), .val (.int v19), .val (.int v25), .val (.int v51), .val (.int v55)] [(.int (-1 : Int32)), (.int v13), (.int v51), (.ref aQ)])) := q82.trans (by
          show Steps p.tables e below (T81.setTop (mkF m 135 #[.val (.ref o0), .val (.int p1), .val (.int p2), .val (.int r2.1), .val (.int r6.1), .val (.int v13), .val (.int v19), .val (.int v25), .val (.int v51), .val (.int v55)] [(.ref aQ)])) _
          refine XS.iload X81.here hx rfl (hb hby d4_135) rfl ?_
          show Steps p.tables e below (T81.setTop (mkF m 137 #[.val (.ref o0), .val (.int p1), .val (.int p2), .val (.int r2.1), .val (.int r6.1), .val (.int v13), .val (.int v19), .val (.int v25), .val (.int v51), .val (.int v55)] [(.int v51), (.ref aQ)])) _
          refine XS.iload X81.here hx rfl (hb hby d4_137) rfl ?_
          show Steps p.tables e below (T81.setTop (mkF m 139 #[.val (.ref o0), .val (.int p1), .val (.int p2), .val (.int r2.1), .val (.int r6.1), .val (.int v13), .val (.int v19), .val (.int v25), .val (.int v51), .val (.int v55)] [(.int v13), (.int v51), (.ref aQ)])) _
          refine XS.iconst X81.here hx rfl (hb hby d4_139) ?_
          show Steps p.tables e below (T81.setTop (mkF m 140 #[.val (.ref o0), .val (.int p1), .val (.int p2), .val (.int r2.1), .val (.int r6.1), .val (.int v13), .val (.int v19), .val (.int v25), .val (.int v51), .val (.int v55)] [(.int (-1 : Int32)), (.int v13), (.int v51), (.ref aQ)])) _
          exact Steps.refl _)
      obtain ⟨v85, hv85, hM⟩ := Option.bind_eq_some_iff.mp hM
      have hv85 := (Option.some.inj hv85).symm
      have q86 : Steps p.tables e below (s₁.setTop (entryFrame m #[(.ref o0), (.int p1), (.int p2)] 10)) (T81.setTop (mkF m 150 #[.val (.ref o0), .val (.int p1), .val (.int p2), .val (.int r2.1), .val (.int r6.1), .val (.int v13), .val (.int v19), .val (.int v25), .val (.int v51), .val (.int v55)] [(.int v85), (.int v51), (.ref aQ)])) := by
        refine q83.trans ?_
        show Steps p.tables e below (T81.setTop (mkF m 140 #[.val (.ref o0), .val (.int p1), .val (.int p2), .val (.int r2.1), .val (.int r6.1), .val (.int v13), .val (.int v19), .val (.int v25), .val (.int v51), .val (.int v55)] [(.int (-1 : Int32)), (.int v13), (.int v51), (.ref aQ)])) _
        by_cases hc84 : v13 = (-1 : Int32)
        · rw [if_pos hc84] at hv85
          refine XS.icmpYes X81.here hx rfl (pc0 := 140) (pc' := 148) rfl (hb hby d4_140) rfl (teq hc84).1 (by decide) (by decide) ?_
          show Steps p.tables e below (T81.setTop (mkF m 148 #[.val (.ref o0), .val (.int p1), .val (.int p2), .val (.int r2.1), .val (.int r6.1), .val (.int v13), .val (.int v19), .val (.int v25), .val (.int v51), .val (.int v55)] [(.int v51), (.ref aQ)])) _
          refine XS.iload X81.here hx rfl (hb hby d4_148) rfl ?_
          show Steps p.tables e below (T81.setTop (mkF m 150 #[.val (.ref o0), .val (.int p1), .val (.int p2), .val (.int r2.1), .val (.int r6.1), .val (.int v13), .val (.int v19), .val (.int v25), .val (.int v51), .val (.int v55)] [(.int v19), (.int v51), (.ref aQ)])) _
          rw [hv85]
          exact Steps.refl _
        · rw [if_neg hc84] at hv85
          refine XS.icmpNo X81.here hx rfl (hb hby d4_140) rfl (feq hc84).1 ?_
          show Steps p.tables e below (T81.setTop (mkF m 143 #[.val (.ref o0), .val (.int p1), .val (.int p2), .val (.int r2.1), .val (.int r6.1), .val (.int v13), .val (.int v19), .val (.int v25), .val (.int v51), .val (.int v55)] [(.int v51), (.ref aQ)])) _
          refine XS.iload X81.here hx rfl (hb hby d4_143) rfl ?_
          show Steps p.tables e below (T81.setTop (mkF m 145 #[.val (.ref o0), .val (.int p1), .val (.int p2), .val (.int r2.1), .val (.int r6.1), .val (.int v13), .val (.int v19), .val (.int v25), .val (.int v51), .val (.int v55)] [(.int v13), (.int v51), (.ref aQ)])) _
          refine XS.goto X81.here hx rfl (pc0 := 145) (pc' := 150) rfl (hb hby d4_145) (by decide) (by decide) ?_
          show Steps p.tables e below (T81.setTop (mkF m 150 #[.val (.ref o0), .val (.int p1), .val (.int p2), .val (.int r2.1), .val (.int r6.1), .val (.int v13), .val (.int v19), .val (.int v25), .val (.int v51), .val (.int v55)] [(.int v13), (.int v51), (.ref aQ)])) _
          rw [hv85]
          exact Steps.refl _
      obtain ⟨y87, hy87, hM⟩ := Option.bind_eq_some_iff.mp hM
      obtain ⟨T88, h88, X88, e88, W88, J88, st88⟩ := Own.stO X81 hx hZ e81 IaQ_78 hy87 (g := (mkF m 150 #[.val (.ref o0), .val (.int p1), .val (.int p2), .val (.int r2.1), .val (.int r6.1), .val (.int v13), .val (.int v19), .val (.int v25), .val (.int v51), .val (.int v55)] [(.int v85), (.int v51), (.ref aQ)])) rfl rfl (hb hby d4_150)
      have N88 := Fr.snoc X88 N78 ge_aQ
      have IaP_88 := IaP_78.other W88 ne_aP_aQ
      have IaS_88 := J78.other W88 ne_aS_aQ
      have Xo0_88 := Xo0_78.wr W88
      have Fo0_parent_88 := Fo0_parent_78.other W88 (Or.inl ne_o0_aQ)
      have Fo0_size_88 := Fo0_size_78.other W88 (Or.inl ne_o0_aQ)
      have Fo0_parallelism_88 := Fo0_parallelism_78.other W88 (Or.inl ne_o0_aQ)
      have Z88 : n0 ≤ h88.size := Own.size_wr W88 Z78
      have K88 : Keep h0 h88 [aP, aS, aQ] := K78.wr W88 (Or.inl (List.mem_of_getElem? (i := 2) rfl))
      have q89 : Steps p.tables e below (s₁.setTop (entryFrame m #[(.ref o0), (.int p1), (.int p2)] 10)) (T88.setTop (mkF m 151 #[.val (.ref o0), .val (.int p1), .val (.int p2), .val (.int r2.1), .val (.int r6.1), .val (.int v13), .val (.int v19), .val (.int v25), .val (.int v51), .val (.int v55)] [])) := q86.trans (st88 _ (Steps.refl _))
      have q90 : Steps p.tables e below (s₁.setTop (entryFrame m #[(.ref o0), (.int p1), (.int p2)] 10)) (T88.setTop (mkF m 161 #[.val (.ref o0), .val (.int p1), .val (.int p2), .val (.int r2.1), .val (.int r6.1), .val (.int v13), .val (.int v19), .val (.int v25), .val (.int v51), .val (.int v55)] [(.int (1 : Int32))])) := q89.trans (by
          show Steps p.tables e below (T88.setTop (mkF m 151 #[.val (.ref o0), .val (.int p1), .val (.int p2), .val (.int r2.1), .val (.int r6.1), .val (.int v13), .val (.int v19), .val (.int v25), .val (.int v51), .val (.int v55)] [])) _
          refine XS.iload X88.here hx rfl (hb hby d4_151) rfl ?_
          show Steps p.tables e below (T88.setTop (mkF m 153 #[.val (.ref o0), .val (.int p1), .val (.int p2), .val (.int r2.1), .val (.int r6.1), .val (.int v13), .val (.int v19), .val (.int v25), .val (.int v51), .val (.int v55)] [(.int v25)])) _
          refine XS.ifNo X88.here hx rfl (hb hby d4_153) rfl ((if0 _ _).trans (teq hc30).2) ?_
          show Steps p.tables e below (T88.setTop (mkF m 156 #[.val (.ref o0), .val (.int p1), .val (.int p2), .val (.int r2.1), .val (.int r6.1), .val (.int v13), .val (.int v19), .val (.int v25), .val (.int v51), .val (.int v55)] [])) _
          refine XS.iconst X88.here hx rfl (hb hby d4_156) ?_
          show Steps p.tables e below (T88.setTop (mkF m 157 #[.val (.ref o0), .val (.int p1), .val (.int p2), .val (.int r2.1), .val (.int r6.1), .val (.int v13), .val (.int v19), .val (.int v25), .val (.int v51), .val (.int v55)] [(.int (1 : Int32))])) _
          refine XS.goto X88.here hx rfl (pc0 := 157) (pc' := 161) rfl (hb hby d4_157) (by decide) (by decide) ?_
          show Steps p.tables e below (T88.setTop (mkF m 161 #[.val (.ref o0), .val (.int p1), .val (.int p2), .val (.int r2.1), .val (.int r6.1), .val (.int v13), .val (.int v19), .val (.int v25), .val (.int v51), .val (.int v55)] [(.int (1 : Int32))])) _
          exact Steps.refl _)
      obtain rfl := Option.some.inj hM
      obtain ⟨fs, hr, hrun, hended, hW, hsame⟩ := X88.leave (v := some (.int (1 : Int32))) (fun h => by rw [Bd.returns] at h; cases h)
      refine ⟨_, _, q90.trans ?_, hrun, hended, _, _, rfl, ?_, ⟨_, rfl⟩, hW, hsame.mono (by decide) (by decide)⟩
      · exact retN X88 hx (t := .boolean) Bd.returns (by simp) (hb hby d4_161) hr
      · show Q_rmJ Z o0 p1 p2 aP aS aQ xP xS xQ _ h0 n0 _ T88.heap _
        rw [e88]
        exact ⟨rfl, N88, K88, IaP_88, IaS_88, J88⟩
  · rw [if_neg hc30] at hM
    have q91 : Steps p.tables e below (s₁.setTop (entryFrame m #[(.ref o0), (.int p1), (.int p2)] 10)) (T16.setTop (mkF m 151 #[.val (.ref o0), .val (.int p1), .val (.int p2), .val (.int r2.1), .val (.int r6.1), .val (.int v13), .val (.int v19), .val (.int v25), .unset, .unset] [])) := q27.trans (by
        show Steps p.tables e below (T16.setTop (mkF m 58 #[.val (.ref o0), .val (.int p1), .val (.int p2), .val (.int r2.1), .val (.int r6.1), .val (.int v13), .val (.int v19), .val (.int v25), .unset, .unset] [(.int v25)])) _
        refine XS.ifYes X16.here hx rfl (pc0 := 58) (pc' := 151) rfl (hb hby d4_58) rfl ((if0 _ _).trans (feq hc30).2) (by decide) (by decide) ?_
        show Steps p.tables e below (T16.setTop (mkF m 151 #[.val (.ref o0), .val (.int p1), .val (.int p2), .val (.int r2.1), .val (.int r6.1), .val (.int v13), .val (.int v19), .val (.int v25), .unset, .unset] [])) _
        exact Steps.refl _)
    have q92 : Steps p.tables e below (s₁.setTop (entryFrame m #[(.ref o0), (.int p1), (.int p2)] 10)) (T16.setTop (mkF m 161 #[.val (.ref o0), .val (.int p1), .val (.int p2), .val (.int r2.1), .val (.int r6.1), .val (.int v13), .val (.int v19), .val (.int v25), .unset, .unset] [(.int (0 : Int32))])) := q91.trans (by
        show Steps p.tables e below (T16.setTop (mkF m 151 #[.val (.ref o0), .val (.int p1), .val (.int p2), .val (.int r2.1), .val (.int r6.1), .val (.int v13), .val (.int v19), .val (.int v25), .unset, .unset] [])) _
        refine XS.iload X16.here hx rfl (hb hby d4_151) rfl ?_
        show Steps p.tables e below (T16.setTop (mkF m 153 #[.val (.ref o0), .val (.int p1), .val (.int p2), .val (.int r2.1), .val (.int r6.1), .val (.int v13), .val (.int v19), .val (.int v25), .unset, .unset] [(.int v25)])) _
        refine XS.ifYes X16.here hx rfl (pc0 := 153) (pc' := 160) rfl (hb hby d4_153) rfl ((if0 _ _).trans (feq hc30).2) (by decide) (by decide) ?_
        show Steps p.tables e below (T16.setTop (mkF m 160 #[.val (.ref o0), .val (.int p1), .val (.int p2), .val (.int r2.1), .val (.int r6.1), .val (.int v13), .val (.int v19), .val (.int v25), .unset, .unset] [])) _
        refine XS.iconst X16.here hx rfl (hb hby d4_160) ?_
        show Steps p.tables e below (T16.setTop (mkF m 161 #[.val (.ref o0), .val (.int p1), .val (.int p2), .val (.int r2.1), .val (.int r6.1), .val (.int v13), .val (.int v19), .val (.int v25), .unset, .unset] [(.int (0 : Int32))])) _
        exact Steps.refl _)
    obtain rfl := Option.some.inj hM
    obtain ⟨fs, hr, hrun, hended, hW, hsame⟩ := X16.leave (v := some (.int (0 : Int32))) (fun h => by rw [Bd.returns] at h; cases h)
    refine ⟨_, _, q92.trans ?_, hrun, hended, _, _, rfl, ?_, ⟨_, rfl⟩, hW, hsame.mono (by decide) (by decide)⟩
    · exact retN X16 hx (t := .boolean) Bd.returns (by simp) (hb hby d4_161) hr
    · show Q_rmJ Z o0 p1 p2 aP aS aQ xP xS xQ _ h0 n0 _ T16.heap _
      rw [e16]
      exact ⟨rfl, N7, KK7, J7_0, IaS_7, IaQ_7⟩

theorem d3_0 : decode method_2_code 0 = .ok (.iload_n 0, 1) := by decide +kernel
theorem d3_1 : decode method_2_code 1 = .ok (.ifCond .eq 12, 3) := by decide +kernel
theorem d3_4 : decode method_2_code 4 = .ok (.iload_n 1, 1) := by decide +kernel
theorem d3_5 : decode method_2_code 5 = .ok (.iconst 2, 1) := by decide +kernel
theorem d3_6 : decode method_2_code 6 = .ok (.if_icmp .lt 7, 3) := by decide +kernel
theorem d3_9 : decode method_2_code 9 = .ok (.iconst 2, 1) := by decide +kernel
theorem d3_10 : decode method_2_code 10 = .ok (.goto 4, 3) := by decide +kernel
theorem d3_13 : decode method_2_code 13 = .ok (.iload_n 1, 1) := by decide +kernel
theorem d3_14 : decode method_2_code 14 = .ok (.ireturn, 1) := by decide +kernel
theorem pn_rmG : plainName "com/example/tideplan/tideplan/planner/ForwardGroupsJoinPinLaw" = true := by first | (simp [plainName, overriddenIn]; done) | decide +kernel
theorem ef_rmG (m : MethodId) (p0 : Int32) (p1 : Int32) : entryFrame m #[(.int p0), (.int p1)] 2 = mkF m 0 #[.val (.int p0), .val (.int p1)] [] := by first | (simp [entryFrame, mkF, argsToLocals, Value.category]; done) | rfl
def Fg (p0 : Int32) (p1 : Int32) : Int32 := (if p0 = (0 : Int32) then p1 else (if p1 < (2 : Int32) then p1 else (2 : Int32)))
def Q_rmG (Z : State) (p0 : Int32) (p1 : Int32) (h0 : Heap) (n0 : Nat) (v : Option Value) (h : Heap) (L : List Loc) : Prop := v = some (.int (Fg p0 p1)) ∧ Fr n0 L ∧ h = h0
set_option maxRecDepth 65536 in
set_option maxHeartbeats 40000000 in
theorem rmG (l : Launch) (Z : State) (a0 : Array Value) (hw : ∀ d ∈ tables_1, d.before a0 Z = true) (ws : List Jvm.Cond) (p0 : Int32) (p1 : Int32) (h0 : Heap) (n0 : Nat) (Z0 : n0 ≤ h0.size) :
    MetFree l (⟨"com/example/tideplan/tideplan/planner/ForwardGroupsJoinPinLaw", "grp", "(ZI)I"⟩ : MethodName) (head1 (Jvm.Cond.code (⟨"com/example/tideplan/tideplan/planner/ForwardGroupsJoinPinLaw", "grp", "(ZI)I"⟩ : MethodName) method_2_code 2 (some .int) :: ws) ({ frames := 0, cells := 0, slots := 0, locals := 0 } : Room)) (fun a U => a = #[(.int p0), (.int p1)] ∧ Z.Warmed39 U.vm ∧ U.heap = h0) (fun _ _ _ _ _ => True) (fun _ U o U' => ∃ v L, o = .returned v ∧ Q_rmG Z p0 p1 h0 n0 v U'.heap L ∧ FrameEnd U o U' L ({ frames := 0, cells := 0, slots := 0, locals := 0 } : Room).cells ({ frames := 0, cells := 0, slots := 0, locals := 0 } : Room).slots) := by
  refine MetFree.of_bodySF (plainFor_of_name pn_rmG) hisR ?_
  intro p e s m args below meth c s₁ Bd hml0 hP hK
  obtain ⟨rfl, hZ, hh⟩ := hP
  have hx := Bd.exec
  have hby := Bd.bytes
  have hml : c.maxLocals = 2 := hml0
  have hown : s.vm.findClass "com/example/tideplan/tideplan/planner/ForwardGroupsJoinPinLaw" = some m.cls := findClass_of_methodNamed Bd.named
  have hnm := (name_of_methodNamed Bd.named Bd.method).1
  have X0 : Stand p l e ({ frames := 0, cells := 0, slots := 0, locals := 0 } : Room) s m #[(.int p0), (.int p1)] below meth c s₁ [] 0 0 := Stand.of_body Bd
  have e0 : s₁.heap = h0 := by rw [← hh, Bd.state]; rfl
  have N0 := Fr.nil n0
  have q0 : Steps p.tables e below (s₁.setTop (entryFrame m #[(.int p0), (.int p1)] 2)) (s₁.setTop (mkF m 0 #[.val (.int p0), .val (.int p1)] [])) := castTop (ef_rmG m p0 p1) (Steps.refl _)
  obtain ⟨fs, hr, hrun, hended, hW, hsame⟩ := X0.leave (v := some (.int (Fg p0 p1))) (fun h => by rw [Bd.returns] at h; cases h)
  refine ⟨_, _, q0.trans ?_, hrun, hended, _, _, rfl, ?_, ⟨_, rfl⟩, hW, hsame.mono (by decide) (by decide)⟩
  · show Steps p.tables e below (s₁.setTop (mkF m 0 #[.val (.int p0), .val (.int p1)] [])) _
    refine XS.iloadN X0.here hx rfl (hb hby d3_0) rfl ?_
    show Steps p.tables e below (s₁.setTop (mkF m 1 #[.val (.int p0), .val (.int p1)] [(.int p0)])) _
    by_cases hc1 : p0 = (0 : Int32)
    · refine XS.ifYes X0.here hx rfl (pc0 := 1) (pc' := 13) rfl (hb hby d3_1) rfl ((if0 _ _).trans (teq hc1).1) (by decide) (by decide) ?_
      show Steps p.tables e below (s₁.setTop (mkF m 13 #[.val (.int p0), .val (.int p1)] [])) _
      refine XS.iloadN X0.here hx rfl (hb hby d3_13) rfl ?_
      show Steps p.tables e below (s₁.setTop (mkF m 14 #[.val (.int p0), .val (.int p1)] [(.int p1)])) _
      have hz : (Fg p0 p1) = p1 := by unfold Fg; rw [if_pos hc1]
      rw [hz] at hr
      exact retI X0 hx Bd.returns (hb hby d3_14) hr
    · refine XS.ifNo X0.here hx rfl (hb hby d3_1) rfl ((if0 _ _).trans (feq hc1).1) ?_
      show Steps p.tables e below (s₁.setTop (mkF m 4 #[.val (.int p0), .val (.int p1)] [])) _
      refine XS.iloadN X0.here hx rfl (hb hby d3_4) rfl ?_
      show Steps p.tables e below (s₁.setTop (mkF m 5 #[.val (.int p0), .val (.int p1)] [(.int p1)])) _
      refine XS.iconst X0.here hx rfl (hb hby d3_5) ?_
      show Steps p.tables e below (s₁.setTop (mkF m 6 #[.val (.int p0), .val (.int p1)] [(.int (2 : Int32)), (.int p1)])) _
      by_cases hc2 : p1 < (2 : Int32)
      · refine XS.icmpYes X0.here hx rfl (pc0 := 6) (pc' := 13) rfl (hb hby d3_6) rfl (tlt hc2).1 (by decide) (by decide) ?_
        show Steps p.tables e below (s₁.setTop (mkF m 13 #[.val (.int p0), .val (.int p1)] [])) _
        refine XS.iloadN X0.here hx rfl (hb hby d3_13) rfl ?_
        show Steps p.tables e below (s₁.setTop (mkF m 14 #[.val (.int p0), .val (.int p1)] [(.int p1)])) _
        have hz : (Fg p0 p1) = p1 := by unfold Fg; rw [if_neg hc1, if_pos hc2]
        rw [hz] at hr
        exact retI X0 hx Bd.returns (hb hby d3_14) hr
      · refine XS.icmpNo X0.here hx rfl (hb hby d3_6) rfl (flt hc2).1 ?_
        show Steps p.tables e below (s₁.setTop (mkF m 9 #[.val (.int p0), .val (.int p1)] [])) _
        refine XS.iconst X0.here hx rfl (hb hby d3_9) ?_
        show Steps p.tables e below (s₁.setTop (mkF m 10 #[.val (.int p0), .val (.int p1)] [(.int (2 : Int32))])) _
        refine XS.goto X0.here hx rfl (pc0 := 10) (pc' := 14) rfl (hb hby d3_10) (by decide) (by decide) ?_
        show Steps p.tables e below (s₁.setTop (mkF m 14 #[.val (.int p0), .val (.int p1)] [(.int (2 : Int32))])) _
        have hz : (Fg p0 p1) = (2 : Int32) := by unfold Fg; rw [if_neg hc1, if_neg hc2]
        rw [hz] at hr
        exact retI X0 hx Bd.returns (hb hby d3_14) hr
  · show Q_rmG Z p0 p1 h0 n0 _ s₁.heap _
    rw [e0]
    exact ⟨rfl, N0, rfl⟩

theorem d8_0 : decode method_3_code 0 = .ok (.iload_n 2, 1) := by decide +kernel
theorem d8_1 : decode method_3_code 1 = .ok (.iload_n 1, 1) := by decide +kernel
theorem d8_2 : decode method_3_code 2 = .ok (.invokestatic 7, 3) := by decide +kernel
theorem d8_5 : decode method_3_code 5 = .ok (.istore 8, 2) := by decide +kernel
theorem d8_7 : decode method_3_code 7 = .ok (.iload 8, 2) := by decide +kernel
theorem d8_9 : decode method_3_code 9 = .ok (.iload_n 3, 1) := by decide +kernel
theorem d8_10 : decode method_3_code 10 = .ok (.if_icmp .eq 15, 3) := by decide +kernel
theorem d8_13 : decode method_3_code 13 = .ok (.iload 5, 2) := by decide +kernel
theorem d8_15 : decode method_3_code 15 = .ok (.ifCond .ne 14, 3) := by decide +kernel
theorem d8_18 : decode method_3_code 18 = .ok (.iload 8, 2) := by decide +kernel
theorem d8_20 : decode method_3_code 20 = .ok (.iload 4, 2) := by decide +kernel
theorem d8_22 : decode method_3_code 22 = .ok (.if_icmp .ne 7, 3) := by decide +kernel
theorem d8_25 : decode method_3_code 25 = .ok (.iconst 1, 1) := by decide +kernel
theorem d8_26 : decode method_3_code 26 = .ok (.goto 4, 3) := by decide +kernel
theorem d8_29 : decode method_3_code 29 = .ok (.iconst 0, 1) := by decide +kernel
theorem d8_30 : decode method_3_code 30 = .ok (.istore 9, 2) := by decide +kernel
theorem d8_32 : decode method_3_code 32 = .ok (.iload 9, 2) := by decide +kernel
theorem d8_34 : decode method_3_code 34 = .ok (.ifCond .eq 10, 3) := by decide +kernel
theorem d8_37 : decode method_3_code 37 = .ok (.iload 6, 2) := by decide +kernel
theorem d8_39 : decode method_3_code 39 = .ok (.istore 10, 2) := by decide +kernel
theorem d8_41 : decode method_3_code 41 = .ok (.goto 20, 3) := by decide +kernel
theorem d8_44 : decode method_3_code 44 = .ok (.iload 8, 2) := by decide +kernel
theorem d8_46 : decode method_3_code 46 = .ok (.iload 4, 2) := by decide +kernel
theorem d8_48 : decode method_3_code 48 = .ok (.if_icmp .ne 10, 3) := by decide +kernel
theorem d8_51 : decode method_3_code 51 = .ok (.iload 7, 2) := by decide +kernel
theorem d8_53 : decode method_3_code 53 = .ok (.istore 10, 2) := by decide +kernel
theorem d8_55 : decode method_3_code 55 = .ok (.goto 6, 3) := by decide +kernel
theorem d8_58 : decode method_3_code 58 = .ok (.iconst (-1), 1) := by decide +kernel
theorem d8_59 : decode method_3_code 59 = .ok (.istore 10, 2) := by decide +kernel
theorem d8_61 : decode method_3_code 61 = .ok (.aload_n 0, 1) := by decide +kernel
theorem d8_62 : decode method_3_code 62 = .ok (.iload_n 1, 1) := by decide +kernel
theorem d8_63 : decode method_3_code 63 = .ok (.invokevirtual 13, 3) := by decide +kernel
theorem d8_66 : decode method_3_code 66 = .ok (.iload 10, 2) := by decide +kernel
theorem d8_68 : decode method_3_code 68 = .ok (.if_icmp .ne 7, 3) := by decide +kernel
theorem d8_71 : decode method_3_code 71 = .ok (.iconst 1, 1) := by decide +kernel
theorem d8_72 : decode method_3_code 72 = .ok (.goto 4, 3) := by decide +kernel
theorem d8_75 : decode method_3_code 75 = .ok (.iconst 0, 1) := by decide +kernel
theorem d8_76 : decode method_3_code 76 = .ok (.ireturn, 1) := by decide +kernel
theorem pd_1 : parseMethodDescriptor "(ZI)I" = some ⟨[.boolean, .int], some .int⟩ := by decide +kernel
theorem pn_rmA : plainName "com/example/tideplan/tideplan/planner/ForwardGroupsJoinPinLaw" = true := by first | (simp [plainName, overriddenIn]; done) | decide +kernel
theorem ef_rmA (m : MethodId) (o0 : Addr) (p1 : Int32) (p2 : Int32) (p3 : Int32) (p4 : Int32) (p5 : Int32) (p6 : Int32) (p7 : Int32) : entryFrame m #[(.ref o0), (.int p1), (.int p2), (.int p3), (.int p4), (.int p5), (.int p6), (.int p7)] 11 = mkF m 0 #[.val (.ref o0), .val (.int p1), .val (.int p2), .val (.int p3), .val (.int p4), .val (.int p5), .val (.int p6), .val (.int p7), .unset, .unset, .unset] [] := by first | (simp [entryFrame, mkF, argsToLocals, Value.category]; done) | rfl
def M_at (p1 : Int32) (p2 : Int32) (p3 : Int32) (p4 : Int32) (p5 : Int32) (p6 : Int32) (p7 : Int32) (xP : List Int32) (xS : List Int32) (xQ : List Int32) : Option (Int32 × List Int32) := (some (if (Fg p2 p1) = p3 then (1 : Int32) else (if p5 = (0 : Int32) then (if (Fg p2 p1) = p4 then (1 : Int32) else (0 : Int32)) else (0 : Int32)))).bind fun v8 => (some (if v8 = (0 : Int32) then (if (Fg p2 p1) = p4 then p7 else (-1 : Int32)) else p6)).bind fun v13 => (M_par p1 xP xS xQ).bind fun r16 => (if r16.1 = v13 then some ((1 : Int32), r16.2) else some ((0 : Int32), r16.2))
def Q_rmA (Z : State) (o0 : Addr) (p1 : Int32) (p2 : Int32) (p3 : Int32) (p4 : Int32) (p5 : Int32) (p6 : Int32) (p7 : Int32) (aP : Addr) (aS : Addr) (aQ : Addr) (xP : List Int32) (xS : List Int32) (xQ : List Int32) (out : Int32 × List Int32) (h0 : Heap) (n0 : Nat) (v : Option Value) (h : Heap) (L : List Loc) : Prop := v = some (.int out.1) ∧ Fr n0 L ∧ Keep h0 h [aP] ∧ Own.IA Z h aP out.2
set_option maxRecDepth 65536 in
set_option maxHeartbeats 40000000 in
theorem rmA (l : Launch) (Z : State) (a0 : Array Value) (hw : ∀ d ∈ tables_1, d.before a0 Z = true) (ws : List Jvm.Cond) (o0 : Addr) (p1 : Int32) (p2 : Int32) (p3 : Int32) (p4 : Int32) (p5 : Int32) (p6 : Int32) (p7 : Int32) (aP : Addr) (aS : Addr) (aQ : Addr) (xP : List Int32) (xS : List Int32) (xQ : List Int32) (out : Int32 × List Int32) (h0 : Heap) (n0 : Nat) (Z0 : n0 ≤ h0.size) (E_o0 : Exa Z h0 o0 "com/example/tideplan/tideplan/planner/ForwardGroups") (F_o0_parent : Fld Z h0 o0 "com/example/tideplan/tideplan/planner/ForwardGroups" "parent" "[I" (.ref aP)) (F_o0_size : Fld Z h0 o0 "com/example/tideplan/tideplan/planner/ForwardGroups" "size" "[I" (.ref aS)) (F_o0_parallelism : Fld Z h0 o0 "com/example/tideplan/tideplan/planner/ForwardGroups" "parallelism" "[I" (.ref aQ)) (I_aP : Own.IA Z h0 aP xP) (I_aS : Own.IA Z h0 aS xS) (I_aQ : Own.IA Z h0 aQ xQ) (ge_aP : n0 ≤ aP) (ge_aS : n0 ≤ aS) (ge_aQ : n0 ≤ aQ) (ne_aP_aS : aP ≠ aS) (ne_aP_aQ : aP ≠ aQ) (ne_aS_aQ : aS ≠ aQ) (ne_o0_aP : o0 ≠ aP) (ne_o0_aS : o0 ≠ aS) (ne_o0_aQ : o0 ≠ aQ) (hM : M_at p1 p2 p3 p4 p5 p6 p7 xP xS xQ = some out) :
    MetFree l (⟨"com/example/tideplan/tideplan/planner/ForwardGroupsJoinPinLaw", "at", "(Lcom/example/tideplan/tideplan/planner/ForwardGroups;IZIIZII)Z"⟩ : MethodName) (head1 (Jvm.Cond.code (⟨"com/example/tideplan/tideplan/planner/ForwardGroupsJoinPinLaw", "at", "(Lcom/example/tideplan/tideplan/planner/ForwardGroups;IZIIZII)Z"⟩ : MethodName) method_3_code 11 (some .boolean) :: ws) ({ frames := 2, cells := 0, slots := 0, locals := 40 } : Room)) (fun a U => a = #[(.ref o0), (.int p1), (.int p2), (.int p3), (.int p4), (.int p5), (.int p6), (.int p7)] ∧ Z.Warmed39 U.vm ∧ U.heap = h0) (fun _ _ _ _ _ => True) (fun _ U o U' => ∃ v L, o = .returned v ∧ Q_rmA Z o0 p1 p2 p3 p4 p5 p6 p7 aP aS aQ xP xS xQ out h0 n0 v U'.heap L ∧ FrameEnd U o U' L ({ frames := 2, cells := 0, slots := 0, locals := 40 } : Room).cells ({ frames := 2, cells := 0, slots := 0, locals := 40 } : Room).slots) := by
  refine MetFree.of_bodySF (plainFor_of_name pn_rmA) hisR ?_
  intro p e s m args below meth c s₁ Bd hml0 hP hK
  obtain ⟨rfl, hZ, hh⟩ := hP
  have hx := Bd.exec
  have hby := Bd.bytes
  have hml : c.maxLocals = 11 := hml0
  have hown : s.vm.findClass "com/example/tideplan/tideplan/planner/ForwardGroupsJoinPinLaw" = some m.cls := findClass_of_methodNamed Bd.named
  have hnm := (name_of_methodNamed Bd.named Bd.method).1
  have X0 : Stand p l e ({ frames := 2, cells := 0, slots := 0, locals := 40 } : Room) s m #[(.ref o0), (.int p1), (.int p2), (.int p3), (.int p4), (.int p5), (.int p6), (.int p7)] below meth c s₁ [] 0 0 := Stand.of_body Bd
  have e0 : s₁.heap = h0 := by rw [← hh, Bd.state]; rfl
  have N0 := Fr.nil n0
  have q0 : Steps p.tables e below (s₁.setTop (entryFrame m #[(.ref o0), (.int p1), (.int p2), (.int p3), (.int p4), (.int p5), (.int p6), (.int p7)] 11)) (s₁.setTop (mkF m 0 #[.val (.ref o0), .val (.int p1), .val (.int p2), .val (.int p3), .val (.int p4), .val (.int p5), .val (.int p6), .val (.int p7), .unset, .unset, .unset] [])) := castTop (ef_rmA m o0 p1 p2 p3 p4 p5 p6 p7) (Steps.refl _)
  unfold M_at at hM
  have K0 : Keep h0 h0 [aP] := Keep.refl _ _
  have q1 : Steps p.tables e below (s₁.setTop (entryFrame m #[(.ref o0), (.int p1), (.int p2), (.int p3), (.int p4), (.int p5), (.int p6), (.int p7)] 11)) (s₁.setTop (mkF m 2 #[.val (.ref o0), .val (.int p1), .val (.int p2), .val (.int p3), .val (.int p4), .val (.int p5), .val (.int p6), .val (.int p7), .unset, .unset, .unset] [(.int p1), (.int p2)])) := q0.trans (by
      show Steps p.tables e below (s₁.setTop (mkF m 0 #[.val (.ref o0), .val (.int p1), .val (.int p2), .val (.int p3), .val (.int p4), .val (.int p5), .val (.int p6), .val (.int p7), .unset, .unset, .unset] [])) _
      refine XS.iloadN X0.here hx rfl (hb hby d8_0) rfl ?_
      show Steps p.tables e below (s₁.setTop (mkF m 1 #[.val (.ref o0), .val (.int p1), .val (.int p2), .val (.int p3), .val (.int p4), .val (.int p5), .val (.int p6), .val (.int p7), .unset, .unset, .unset] [(.int p2)])) _
      refine XS.iloadN X0.here hx rfl (hb hby d8_1) rfl ?_
      show Steps p.tables e below (s₁.setTop (mkF m 2 #[.val (.ref o0), .val (.int p1), .val (.int p2), .val (.int p3), .val (.int p4), .val (.int p5), .val (.int p6), .val (.int p7), .unset, .unset, .unset] [(.int p1), (.int p2)])) _
      exact Steps.refl _)
  obtain ⟨_, _, ⟨T2, L2, k2, n2⟩, -, X2, ⟨Lc2, hQ2, l2, y2, z2⟩, st2⟩ := Jvm.LawKit.callS X0 hx (y := (⟨"com/example/tideplan/tideplan/planner/ForwardGroupsJoinPinLaw", "grp", "(ZI)I"⟩ : MethodName)) hown (mvT hZ (hw _ (List.mem_of_getElem? (i := 16) rfl))) (mvT hZ (hw _ (List.mem_of_getElem? (i := 17) rfl))) (mvT hZ (hw _ (List.mem_of_getElem? (i := 18) rfl))) (mvT hZ (hw _ (List.mem_of_getElem? (i := 19) rfl))) (by decide) (backOf (W := 0) (rmG l Z a0 hw [] p2 p1 h0 n0 Z0) hZ (hw _ (List.mem_of_getElem? (i := 19) rfl)) (hw _ (List.mem_of_getElem? (i := 18) rfl)) (by decide) (by decide)) (g := (mkF m 2 #[.val (.ref o0), .val (.int p1), .val (.int p2), .val (.int p3), .val (.int p4), .val (.int p5), .val (.int p6), .val (.int p7), .unset, .unset, .unset] [(.int p1), (.int p2)])) rfl (by rw [hml]; rfl) (argsL := [(.int p2), (.int p1)]) (rest := []) (lenOf pd_1 rfl) rfl (by show 2 * 0 + _ ≤ _; exact Nat.le_of_eq rfl) (hb hby d8_2) (fun _ _ => ⟨rfl, e0, (by decide : 0 + 0 ≤ _), (by decide : 0 + 0 ≤ _)⟩)
  dsimp only [Pt.U, Pt.locs, Pt.cells, Pt.slots] at X2 l2 y2 z2 st2 hQ2
  subst l2 y2 z2
  obtain ⟨rfl, N2q, e2⟩ := hQ2
  have N2 := Fr.app N0 N2q
  have q3 : Steps p.tables e below (s₁.setTop (entryFrame m #[(.ref o0), (.int p1), (.int p2), (.int p3), (.int p4), (.int p5), (.int p6), (.int p7)] 11)) (T2.setTop (mkF m 5 #[.val (.ref o0), .val (.int p1), .val (.int p2), .val (.int p3), .val (.int p4), .val (.int p5), .val (.int p6), .val (.int p7), .unset, .unset, .unset] [(.int (Fg p2 p1))])) := q1.trans (st2 _ (Steps.refl _))
  have q4 : Steps p.tables e below (s₁.setTop (entryFrame m #[(.ref o0), (.int p1), (.int p2), (.int p3), (.int p4), (.int p5), (.int p6), (.int p7)] 11)) (T2.setTop (mkF m 10 #[.val (.ref o0), .val (.int p1), .val (.int p2), .val (.int p3), .val (.int p4), .val (.int p5), .val (.int p6), .val (.int p7), .val (.int (Fg p2 p1)), .unset, .unset] [(.int p3), (.int (Fg p2 p1))])) := q3.trans (by
      show Steps p.tables e below (T2.setTop (mkF m 5 #[.val (.ref o0), .val (.int p1), .val (.int p2), .val (.int p3), .val (.int p4), .val (.int p5), .val (.int p6), .val (.int p7), .unset, .unset, .unset] [(.int (Fg p2 p1))])) _
      refine XS.istore X2.here hx rfl (hb hby d8_5) rfl (l' := #[.val (.ref o0), .val (.int p1), .val (.int p2), .val (.int p3), .val (.int p4), .val (.int p5), .val (.int p6), .val (.int p7), .val (.int (Fg p2 p1)), .unset, .unset]) rfl ?_
      show Steps p.tables e below (T2.setTop (mkF m 7 #[.val (.ref o0), .val (.int p1), .val (.int p2), .val (.int p3), .val (.int p4), .val (.int p5), .val (.int p6), .val (.int p7), .val (.int (Fg p2 p1)), .unset, .unset] [])) _
      refine XS.iload X2.here hx rfl (hb hby d8_7) rfl ?_
      show Steps p.tables e below (T2.setTop (mkF m 9 #[.val (.ref o0), .val (.int p1), .val (.int p2), .val (.int p3), .val (.int p4), .val (.int p5), .val (.int p6), .val (.int p7), .val (.int (Fg p2 p1)), .unset, .unset] [(.int (Fg p2 p1))])) _
      refine XS.iloadN X2.here hx rfl (hb hby d8_9) rfl ?_
      show Steps p.tables e below (T2.setTop (mkF m 10 #[.val (.ref o0), .val (.int p1), .val (.int p2), .val (.int p3), .val (.int p4), .val (.int p5), .val (.int p6), .val (.int p7), .val (.int (Fg p2 p1)), .unset, .unset] [(.int p3), (.int (Fg p2 p1))])) _
      exact Steps.refl _)
  obtain ⟨v8, hv8, hM⟩ := Option.bind_eq_some_iff.mp hM
  have hv8 := (Option.some.inj hv8).symm
  have q9 : Steps p.tables e below (s₁.setTop (entryFrame m #[(.ref o0), (.int p1), (.int p2), (.int p3), (.int p4), (.int p5), (.int p6), (.int p7)] 11)) (T2.setTop (mkF m 30 #[.val (.ref o0), .val (.int p1), .val (.int p2), .val (.int p3), .val (.int p4), .val (.int p5), .val (.int p6), .val (.int p7), .val (.int (Fg p2 p1)), .unset, .unset] [(.int v8)])) := by
    refine q4.trans ?_
    show Steps p.tables e below (T2.setTop (mkF m 10 #[.val (.ref o0), .val (.int p1), .val (.int p2), .val (.int p3), .val (.int p4), .val (.int p5), .val (.int p6), .val (.int p7), .val (.int (Fg p2 p1)), .unset, .unset] [(.int p3), (.int (Fg p2 p1))])) _
    by_cases hc5 : (Fg p2 p1) = p3
    · rw [if_pos hc5] at hv8
      refine XS.icmpYes X2.here hx rfl (pc0 := 10) (pc' := 25) rfl (hb hby d8_10) rfl (teq hc5).1 (by decide) (by decide) ?_
      show Steps p.tables e below (T2.setTop (mkF m 25 #[.val (.ref o0), .val (.int p1), .val (.int p2), .val (.int p3), .val (.int p4), .val (.int p5), .val (.int p6), .val (.int p7), .val (.int (Fg p2 p1)), .unset, .unset] [])) _
      refine XS.iconst X2.here hx rfl (hb hby d8_25) ?_
      show Steps p.tables e below (T2.setTop (mkF m 26 #[.val (.ref o0), .val (.int p1), .val (.int p2), .val (.int p3), .val (.int p4), .val (.int p5), .val (.int p6), .val (.int p7), .val (.int (Fg p2 p1)), .unset, .unset] [(.int (1 : Int32))])) _
      refine XS.goto X2.here hx rfl (pc0 := 26) (pc' := 30) rfl (hb hby d8_26) (by decide) (by decide) ?_
      show Steps p.tables e below (T2.setTop (mkF m 30 #[.val (.ref o0), .val (.int p1), .val (.int p2), .val (.int p3), .val (.int p4), .val (.int p5), .val (.int p6), .val (.int p7), .val (.int (Fg p2 p1)), .unset, .unset] [(.int (1 : Int32))])) _
      rw [hv8]
      exact Steps.refl _
    · rw [if_neg hc5] at hv8
      refine XS.icmpNo X2.here hx rfl (hb hby d8_10) rfl (feq hc5).1 ?_
      show Steps p.tables e below (T2.setTop (mkF m 13 #[.val (.ref o0), .val (.int p1), .val (.int p2), .val (.int p3), .val (.int p4), .val (.int p5), .val (.int p6), .val (.int p7), .val (.int (Fg p2 p1)), .unset, .unset] [])) _
      refine XS.iload X2.here hx rfl (hb hby d8_13) rfl ?_
      show Steps p.tables e below (T2.setTop (mkF m 15 #[.val (.ref o0), .val (.int p1), .val (.int p2), .val (.int p3), .val (.int p4), .val (.int p5), .val (.int p6), .val (.int p7), .val (.int (Fg p2 p1)), .unset, .unset] [(.int p5)])) _
      by_cases hc6 : p5 = (0 : Int32)
      · rw [if_pos hc6] at hv8
        refine XS.ifNo X2.here hx rfl (hb hby d8_15) rfl ((if0 _ _).trans (teq hc6).2) ?_
        show Steps p.tables e below (T2.setTop (mkF m 18 #[.val (.ref o0), .val (.int p1), .val (.int p2), .val (.int p3), .val (.int p4), .val (.int p5), .val (.int p6), .val (.int p7), .val (.int (Fg p2 p1)), .unset, .unset] [])) _
        refine XS.iload X2.here hx rfl (hb hby d8_18) rfl ?_
        show Steps p.tables e below (T2.setTop (mkF m 20 #[.val (.ref o0), .val (.int p1), .val (.int p2), .val (.int p3), .val (.int p4), .val (.int p5), .val (.int p6), .val (.int p7), .val (.int (Fg p2 p1)), .unset, .unset] [(.int (Fg p2 p1))])) _
        refine XS.iload X2.here hx rfl (hb hby d8_20) rfl ?_
        show Steps p.tables e below (T2.setTop (mkF m 22 #[.val (.ref o0), .val (.int p1), .val (.int p2), .val (.int p3), .val (.int p4), .val (.int p5), .val (.int p6), .val (.int p7), .val (.int (Fg p2 p1)), .unset, .unset] [(.int p4), (.int (Fg p2 p1))])) _
        by_cases hc7 : (Fg p2 p1) = p4
        · rw [if_pos hc7] at hv8
          refine XS.icmpNo X2.here hx rfl (hb hby d8_22) rfl (teq hc7).2 ?_
          show Steps p.tables e below (T2.setTop (mkF m 25 #[.val (.ref o0), .val (.int p1), .val (.int p2), .val (.int p3), .val (.int p4), .val (.int p5), .val (.int p6), .val (.int p7), .val (.int (Fg p2 p1)), .unset, .unset] [])) _
          refine XS.iconst X2.here hx rfl (hb hby d8_25) ?_
          show Steps p.tables e below (T2.setTop (mkF m 26 #[.val (.ref o0), .val (.int p1), .val (.int p2), .val (.int p3), .val (.int p4), .val (.int p5), .val (.int p6), .val (.int p7), .val (.int (Fg p2 p1)), .unset, .unset] [(.int (1 : Int32))])) _
          refine XS.goto X2.here hx rfl (pc0 := 26) (pc' := 30) rfl (hb hby d8_26) (by decide) (by decide) ?_
          show Steps p.tables e below (T2.setTop (mkF m 30 #[.val (.ref o0), .val (.int p1), .val (.int p2), .val (.int p3), .val (.int p4), .val (.int p5), .val (.int p6), .val (.int p7), .val (.int (Fg p2 p1)), .unset, .unset] [(.int (1 : Int32))])) _
          rw [hv8]
          exact Steps.refl _
        · rw [if_neg hc7] at hv8
          refine XS.icmpYes X2.here hx rfl (pc0 := 22) (pc' := 29) rfl (hb hby d8_22) rfl (feq hc7).2 (by decide) (by decide) ?_
          show Steps p.tables e below (T2.setTop (mkF m 29 #[.val (.ref o0), .val (.int p1), .val (.int p2), .val (.int p3), .val (.int p4), .val (.int p5), .val (.int p6), .val (.int p7), .val (.int (Fg p2 p1)), .unset, .unset] [])) _
          refine XS.iconst X2.here hx rfl (hb hby d8_29) ?_
          show Steps p.tables e below (T2.setTop (mkF m 30 #[.val (.ref o0), .val (.int p1), .val (.int p2), .val (.int p3), .val (.int p4), .val (.int p5), .val (.int p6), .val (.int p7), .val (.int (Fg p2 p1)), .unset, .unset] [(.int (0 : Int32))])) _
          rw [hv8]
          exact Steps.refl _
      · rw [if_neg hc6] at hv8
        refine XS.ifYes X2.here hx rfl (pc0 := 15) (pc' := 29) rfl (hb hby d8_15) rfl ((if0 _ _).trans (feq hc6).2) (by decide) (by decide) ?_
        show Steps p.tables e below (T2.setTop (mkF m 29 #[.val (.ref o0), .val (.int p1), .val (.int p2), .val (.int p3), .val (.int p4), .val (.int p5), .val (.int p6), .val (.int p7), .val (.int (Fg p2 p1)), .unset, .unset] [])) _
        refine XS.iconst X2.here hx rfl (hb hby d8_29) ?_
        show Steps p.tables e below (T2.setTop (mkF m 30 #[.val (.ref o0), .val (.int p1), .val (.int p2), .val (.int p3), .val (.int p4), .val (.int p5), .val (.int p6), .val (.int p7), .val (.int (Fg p2 p1)), .unset, .unset] [(.int (0 : Int32))])) _
        rw [hv8]
        exact Steps.refl _
  have q10 : Steps p.tables e below (s₁.setTop (entryFrame m #[(.ref o0), (.int p1), (.int p2), (.int p3), (.int p4), (.int p5), (.int p6), (.int p7)] 11)) (T2.setTop (mkF m 34 #[.val (.ref o0), .val (.int p1), .val (.int p2), .val (.int p3), .val (.int p4), .val (.int p5), .val (.int p6), .val (.int p7), .val (.int (Fg p2 p1)), .val (.int v8), .unset] [(.int v8)])) := q9.trans (by
      show Steps p.tables e below (T2.setTop (mkF m 30 #[.val (.ref o0), .val (.int p1), .val (.int p2), .val (.int p3), .val (.int p4), .val (.int p5), .val (.int p6), .val (.int p7), .val (.int (Fg p2 p1)), .unset, .unset] [(.int v8)])) _
      refine XS.istore X2.here hx rfl (hb hby d8_30) rfl (l' := #[.val (.ref o0), .val (.int p1), .val (.int p2), .val (.int p3), .val (.int p4), .val (.int p5), .val (.int p6), .val (.int p7), .val (.int (Fg p2 p1)), .val (.int v8), .unset]) rfl ?_
      show Steps p.tables e below (T2.setTop (mkF m 32 #[.val (.ref o0), .val (.int p1), .val (.int p2), .val (.int p3), .val (.int p4), .val (.int p5), .val (.int p6), .val (.int p7), .val (.int (Fg p2 p1)), .val (.int v8), .unset] [])) _
      refine XS.iload X2.here hx rfl (hb hby d8_32) rfl ?_
      show Steps p.tables e below (T2.setTop (mkF m 34 #[.val (.ref o0), .val (.int p1), .val (.int p2), .val (.int p3), .val (.int p4), .val (.int p5), .val (.int p6), .val (.int p7), .val (.int (Fg p2 p1)), .val (.int v8), .unset] [(.int v8)])) _
      exact Steps.refl _)
  obtain ⟨v13, hv13, hM⟩ := Option.bind_eq_some_iff.mp hM
  have hv13 := (Option.some.inj hv13).symm
  have q14 : Steps p.tables e below (s₁.setTop (entryFrame m #[(.ref o0), (.int p1), (.int p2), (.int p3), (.int p4), (.int p5), (.int p6), (.int p7)] 11)) (T2.setTop (mkF m 61 #[.val (.ref o0), .val (.int p1), .val (.int p2), .val (.int p3), .val (.int p4), .val (.int p5), .val (.int p6), .val (.int p7), .val (.int (Fg p2 p1)), .val (.int v8), .val (.int v13)] [])) := by
    refine q10.trans ?_
    show Steps p.tables e below (T2.setTop (mkF m 34 #[.val (.ref o0), .val (.int p1), .val (.int p2), .val (.int p3), .val (.int p4), .val (.int p5), .val (.int p6), .val (.int p7), .val (.int (Fg p2 p1)), .val (.int v8), .unset] [(.int v8)])) _
    by_cases hc11 : v8 = (0 : Int32)
    · rw [if_pos hc11] at hv13
      refine XS.ifYes X2.here hx rfl (pc0 := 34) (pc' := 44) rfl (hb hby d8_34) rfl ((if0 _ _).trans (teq hc11).1) (by decide) (by decide) ?_
      show Steps p.tables e below (T2.setTop (mkF m 44 #[.val (.ref o0), .val (.int p1), .val (.int p2), .val (.int p3), .val (.int p4), .val (.int p5), .val (.int p6), .val (.int p7), .val (.int (Fg p2 p1)), .val (.int v8), .unset] [])) _
      refine XS.iload X2.here hx rfl (hb hby d8_44) rfl ?_
      show Steps p.tables e below (T2.setTop (mkF m 46 #[.val (.ref o0), .val (.int p1), .val (.int p2), .val (.int p3), .val (.int p4), .val (.int p5), .val (.int p6), .val (.int p7), .val (.int (Fg p2 p1)), .val (.int v8), .unset] [(.int (Fg p2 p1))])) _
      refine XS.iload X2.here hx rfl (hb hby d8_46) rfl ?_
      show Steps p.tables e below (T2.setTop (mkF m 48 #[.val (.ref o0), .val (.int p1), .val (.int p2), .val (.int p3), .val (.int p4), .val (.int p5), .val (.int p6), .val (.int p7), .val (.int (Fg p2 p1)), .val (.int v8), .unset] [(.int p4), (.int (Fg p2 p1))])) _
      by_cases hc12 : (Fg p2 p1) = p4
      · rw [if_pos hc12] at hv13
        refine XS.icmpNo X2.here hx rfl (hb hby d8_48) rfl (teq hc12).2 ?_
        show Steps p.tables e below (T2.setTop (mkF m 51 #[.val (.ref o0), .val (.int p1), .val (.int p2), .val (.int p3), .val (.int p4), .val (.int p5), .val (.int p6), .val (.int p7), .val (.int (Fg p2 p1)), .val (.int v8), .unset] [])) _
        refine XS.iload X2.here hx rfl (hb hby d8_51) rfl ?_
        show Steps p.tables e below (T2.setTop (mkF m 53 #[.val (.ref o0), .val (.int p1), .val (.int p2), .val (.int p3), .val (.int p4), .val (.int p5), .val (.int p6), .val (.int p7), .val (.int (Fg p2 p1)), .val (.int v8), .unset] [(.int p7)])) _
        refine XS.istore X2.here hx rfl (hb hby d8_53) rfl (l' := #[.val (.ref o0), .val (.int p1), .val (.int p2), .val (.int p3), .val (.int p4), .val (.int p5), .val (.int p6), .val (.int p7), .val (.int (Fg p2 p1)), .val (.int v8), .val (.int p7)]) rfl ?_
        show Steps p.tables e below (T2.setTop (mkF m 55 #[.val (.ref o0), .val (.int p1), .val (.int p2), .val (.int p3), .val (.int p4), .val (.int p5), .val (.int p6), .val (.int p7), .val (.int (Fg p2 p1)), .val (.int v8), .val (.int p7)] [])) _
        refine XS.goto X2.here hx rfl (pc0 := 55) (pc' := 61) rfl (hb hby d8_55) (by decide) (by decide) ?_
        show Steps p.tables e below (T2.setTop (mkF m 61 #[.val (.ref o0), .val (.int p1), .val (.int p2), .val (.int p3), .val (.int p4), .val (.int p5), .val (.int p6), .val (.int p7), .val (.int (Fg p2 p1)), .val (.int v8), .val (.int p7)] [])) _
        rw [hv13]
        exact Steps.refl _
      · rw [if_neg hc12] at hv13
        refine XS.icmpYes X2.here hx rfl (pc0 := 48) (pc' := 58) rfl (hb hby d8_48) rfl (feq hc12).2 (by decide) (by decide) ?_
        show Steps p.tables e below (T2.setTop (mkF m 58 #[.val (.ref o0), .val (.int p1), .val (.int p2), .val (.int p3), .val (.int p4), .val (.int p5), .val (.int p6), .val (.int p7), .val (.int (Fg p2 p1)), .val (.int v8), .unset] [])) _
        refine XS.iconst X2.here hx rfl (hb hby d8_58) ?_
        show Steps p.tables e below (T2.setTop (mkF m 59 #[.val (.ref o0), .val (.int p1), .val (.int p2), .val (.int p3), .val (.int p4), .val (.int p5), .val (.int p6), .val (.int p7), .val (.int (Fg p2 p1)), .val (.int v8), .unset] [(.int (-1 : Int32))])) _
        refine XS.istore X2.here hx rfl (hb hby d8_59) rfl (l' := #[.val (.ref o0), .val (.int p1), .val (.int p2), .val (.int p3), .val (.int p4), .val (.int p5), .val (.int p6), .val (.int p7), .val (.int (Fg p2 p1)), .val (.int v8), .val (.int (-1 : Int32))]) rfl ?_
        show Steps p.tables e below (T2.setTop (mkF m 61 #[.val (.ref o0), .val (.int p1), .val (.int p2), .val (.int p3), .val (.int p4), .val (.int p5), .val (.int p6), .val (.int p7), .val (.int (Fg p2 p1)), .val (.int v8), .val (.int (-1 : Int32))] [])) _
        rw [hv13]
        exact Steps.refl _
    · rw [if_neg hc11] at hv13
      refine XS.ifNo X2.here hx rfl (hb hby d8_34) rfl ((if0 _ _).trans (feq hc11).1) ?_
      show Steps p.tables e below (T2.setTop (mkF m 37 #[.val (.ref o0), .val (.int p1), .val (.int p2), .val (.int p3), .val (.int p4), .val (.int p5), .val (.int p6), .val (.int p7), .val (.int (Fg p2 p1)), .val (.int v8), .unset] [])) _
      refine XS.iload X2.here hx rfl (hb hby d8_37) rfl ?_
      show Steps p.tables e below (T2.setTop (mkF m 39 #[.val (.ref o0), .val (.int p1), .val (.int p2), .val (.int p3), .val (.int p4), .val (.int p5), .val (.int p6), .val (.int p7), .val (.int (Fg p2 p1)), .val (.int v8), .unset] [(.int p6)])) _
      refine XS.istore X2.here hx rfl (hb hby d8_39) rfl (l' := #[.val (.ref o0), .val (.int p1), .val (.int p2), .val (.int p3), .val (.int p4), .val (.int p5), .val (.int p6), .val (.int p7), .val (.int (Fg p2 p1)), .val (.int v8), .val (.int p6)]) rfl ?_
      show Steps p.tables e below (T2.setTop (mkF m 41 #[.val (.ref o0), .val (.int p1), .val (.int p2), .val (.int p3), .val (.int p4), .val (.int p5), .val (.int p6), .val (.int p7), .val (.int (Fg p2 p1)), .val (.int v8), .val (.int p6)] [])) _
      refine XS.goto X2.here hx rfl (pc0 := 41) (pc' := 61) rfl (hb hby d8_41) (by decide) (by decide) ?_
      show Steps p.tables e below (T2.setTop (mkF m 61 #[.val (.ref o0), .val (.int p1), .val (.int p2), .val (.int p3), .val (.int p4), .val (.int p5), .val (.int p6), .val (.int p7), .val (.int (Fg p2 p1)), .val (.int v8), .val (.int p6)] [])) _
      rw [hv13]
      exact Steps.refl _
  have q15 : Steps p.tables e below (s₁.setTop (entryFrame m #[(.ref o0), (.int p1), (.int p2), (.int p3), (.int p4), (.int p5), (.int p6), (.int p7)] 11)) (T2.setTop (mkF m 63 #[.val (.ref o0), .val (.int p1), .val (.int p2), .val (.int p3), .val (.int p4), .val (.int p5), .val (.int p6), .val (.int p7), .val (.int (Fg p2 p1)), .val (.int v8), .val (.int v13)] [(.int p1), (.ref o0)])) := q14.trans (by
      show Steps p.tables e below (T2.setTop (mkF m 61 #[.val (.ref o0), .val (.int p1), .val (.int p2), .val (.int p3), .val (.int p4), .val (.int p5), .val (.int p6), .val (.int p7), .val (.int (Fg p2 p1)), .val (.int v8), .val (.int v13)] [])) _
      refine XS.aloadN X2.here hx rfl (hb hby d8_61) rfl rfl ?_
      show Steps p.tables e below (T2.setTop (mkF m 62 #[.val (.ref o0), .val (.int p1), .val (.int p2), .val (.int p3), .val (.int p4), .val (.int p5), .val (.int p6), .val (.int p7), .val (.int (Fg p2 p1)), .val (.int v8), .val (.int v13)] [(.ref o0)])) _
      refine XS.iloadN X2.here hx rfl (hb hby d8_62) rfl ?_
      show Steps p.tables e below (T2.setTop (mkF m 63 #[.val (.ref o0), .val (.int p1), .val (.int p2), .val (.int p3), .val (.int p4), .val (.int p5), .val (.int p6), .val (.int p7), .val (.int (Fg p2 p1)), .val (.int v8), .val (.int v13)] [(.int p1), (.ref o0)])) _
      exact Steps.refl _)
  obtain ⟨r16, hr16, hM⟩ := Option.bind_eq_some_iff.mp hM
  obtain ⟨cq17, kq17, q17a, q17b, q17c⟩ := isOf hZ e2 E_o0
  obtain ⟨_, _, ⟨T17, L17, k17, n17⟩, -, X17, ⟨Lc17, hQ17, l17, y17, z17⟩, st17⟩ := X2.virtualBack hx (y := (⟨"com/example/tideplan/tideplan/planner/ForwardGroups", "parallelism", "(I)I"⟩ : MethodName)) (z := (⟨"com/example/tideplan/tideplan/planner/ForwardGroups", "parallelism", "(I)I"⟩ : MethodName)) hown (mvT hZ (hw _ (List.mem_of_getElem? (i := 29) rfl))) (mvT hZ (hw _ (List.mem_of_getElem? (i := 30) rfl))) (notFace_of_selects (args := #[]) (mvT hZ (hw _ (List.mem_of_getElem? (i := 32) rfl)))) (mvT hZ (hw _ (List.mem_of_getElem? (i := 32) rfl))) (mvT hZ (hw _ (List.mem_of_getElem? (i := 31) rfl))) (by decide) (backOf (W := 0) (rmP l Z a0 hw [] o0 p1 aP aS aQ xP xS xQ r16 h0 n0 Z0 E_o0 F_o0_parent F_o0_size F_o0_parallelism I_aP I_aS I_aQ ge_aP ge_aS ge_aQ ne_aP_aS ne_aP_aQ ne_aS_aQ ne_o0_aP ne_o0_aS ne_o0_aQ hr16) hZ (hw _ (List.mem_of_getElem? (i := 33) rfl)) (hw _ (List.mem_of_getElem? (i := 2) rfl)) (by decide) (by decide)) q17a q17c (g := (mkF m 63 #[.val (.ref o0), .val (.int p1), .val (.int p2), .val (.int p3), .val (.int p4), .val (.int p5), .val (.int p6), .val (.int p7), .val (.int (Fg p2 p1)), .val (.int v8), .val (.int v13)] [(.int p1), (.ref o0)])) rfl (by rw [hml]; rfl) (Steps.refl _) (argsL := [(.int p1)]) (rest := []) (lenOf pd_0 rfl) rfl (by show 2 * 0 + _ ≤ _; exact Nat.le_of_eq rfl) (hb hby d8_63) (fun _ _ => ⟨rfl, e2, (by decide : 0 + 0 ≤ _), (by decide : 0 + 0 ≤ _)⟩)
  dsimp only [Pt.U, Pt.locs, Pt.cells, Pt.slots] at X17 l17 y17 z17 st17 hQ17
  subst l17 y17 z17
  obtain ⟨rfl, N17q, K17, J17_0⟩ := hQ17
  have N17 := Fr.app N2 N17q
  have IaS_17 := I_aS.keep K17 (ninS (Ne.symm ne_aP_aS) nin0)
  have IaQ_17 := I_aQ.keep K17 (ninS (Ne.symm ne_aP_aQ) nin0)
  have Xo0_17 := E_o0.keep K17
  have Fo0_parent_17 := F_o0_parent.keep K17 (ninS ne_o0_aP nin0)
  have Fo0_size_17 := F_o0_size.keep K17 (ninS ne_o0_aP nin0)
  have Fo0_parallelism_17 := F_o0_parallelism.keep K17 (ninS ne_o0_aP nin0)
  have Z17 : n0 ≤ T17.heap.size := Nat.le_trans Z0 K17.1
  have KK17 : Keep h0 T17.heap [aP] := K0.trans K17 (allS (Or.inl (List.mem_of_getElem? (i := 0) rfl)) all0)
  have q18 : Steps p.tables e below (s₁.setTop (entryFrame m #[(.ref o0), (.int p1), (.int p2), (.int p3), (.int p4), (.int p5), (.int p6), (.int p7)] 11)) (T17.setTop (mkF m 66 #[.val (.ref o0), .val (.int p1), .val (.int p2), .val (.int p3), .val (.int p4), .val (.int p5), .val (.int p6), .val (.int p7), .val (.int (Fg p2 p1)), .val (.int v8), .val (.int v13)] [(.int r16.1)])) := q15.trans (st17)
  have q19 : Steps p.tables e below (s₁.setTop (entryFrame m #[(.ref o0), (.int p1), (.int p2), (.int p3), (.int p4), (.int p5), (.int p6), (.int p7)] 11)) (T17.setTop (mkF m 68 #[.val (.ref o0), .val (.int p1), .val (.int p2), .val (.int p3), .val (.int p4), .val (.int p5), .val (.int p6), .val (.int p7), .val (.int (Fg p2 p1)), .val (.int v8), .val (.int v13)] [(.int v13), (.int r16.1)])) := q18.trans (by
      show Steps p.tables e below (T17.setTop (mkF m 66 #[.val (.ref o0), .val (.int p1), .val (.int p2), .val (.int p3), .val (.int p4), .val (.int p5), .val (.int p6), .val (.int p7), .val (.int (Fg p2 p1)), .val (.int v8), .val (.int v13)] [(.int r16.1)])) _
      refine XS.iload X17.here hx rfl (hb hby d8_66) rfl ?_
      show Steps p.tables e below (T17.setTop (mkF m 68 #[.val (.ref o0), .val (.int p1), .val (.int p2), .val (.int p3), .val (.int p4), .val (.int p5), .val (.int p6), .val (.int p7), .val (.int (Fg p2 p1)), .val (.int v8), .val (.int v13)] [(.int v13), (.int r16.1)])) _
      exact Steps.refl _)
  by_cases hc20 : r16.1 = v13
  · rw [if_pos hc20] at hM
    have q21 : Steps p.tables e below (s₁.setTop (entryFrame m #[(.ref o0), (.int p1), (.int p2), (.int p3), (.int p4), (.int p5), (.int p6), (.int p7)] 11)) (T17.setTop (mkF m 71 #[.val (.ref o0), .val (.int p1), .val (.int p2), .val (.int p3), .val (.int p4), .val (.int p5), .val (.int p6), .val (.int p7), .val (.int (Fg p2 p1)), .val (.int v8), .val (.int v13)] [])) := q19.trans (by
        show Steps p.tables e below (T17.setTop (mkF m 68 #[.val (.ref o0), .val (.int p1), .val (.int p2), .val (.int p3), .val (.int p4), .val (.int p5), .val (.int p6), .val (.int p7), .val (.int (Fg p2 p1)), .val (.int v8), .val (.int v13)] [(.int v13), (.int r16.1)])) _
        refine XS.icmpNo X17.here hx rfl (hb hby d8_68) rfl (teq hc20).2 ?_
        show Steps p.tables e below (T17.setTop (mkF m 71 #[.val (.ref o0), .val (.int p1), .val (.int p2), .val (.int p3), .val (.int p4), .val (.int p5), .val (.int p6), .val (.int p7), .val (.int (Fg p2 p1)), .val (.int v8), .val (.int v13)] [])) _
        exact Steps.refl _)
    have q22 : Steps p.tables e below (s₁.setTop (entryFrame m #[(.ref o0), (.int p1), (.int p2), (.int p3), (.int p4), (.int p5), (.int p6), (.int p7)] 11)) (T17.setTop (mkF m 76 #[.val (.ref o0), .val (.int p1), .val (.int p2), .val (.int p3), .val (.int p4), .val (.int p5), .val (.int p6), .val (.int p7), .val (.int (Fg p2 p1)), .val (.int v8), .val (.int v13)] [(.int (1 : Int32))])) := q21.trans (by
        show Steps p.tables e below (T17.setTop (mkF m 71 #[.val (.ref o0), .val (.int p1), .val (.int p2), .val (.int p3), .val (.int p4), .val (.int p5), .val (.int p6), .val (.int p7), .val (.int (Fg p2 p1)), .val (.int v8), .val (.int v13)] [])) _
        refine XS.iconst X17.here hx rfl (hb hby d8_71) ?_
        show Steps p.tables e below (T17.setTop (mkF m 72 #[.val (.ref o0), .val (.int p1), .val (.int p2), .val (.int p3), .val (.int p4), .val (.int p5), .val (.int p6), .val (.int p7), .val (.int (Fg p2 p1)), .val (.int v8), .val (.int v13)] [(.int (1 : Int32))])) _
        refine XS.goto X17.here hx rfl (pc0 := 72) (pc' := 76) rfl (hb hby d8_72) (by decide) (by decide) ?_
        show Steps p.tables e below (T17.setTop (mkF m 76 #[.val (.ref o0), .val (.int p1), .val (.int p2), .val (.int p3), .val (.int p4), .val (.int p5), .val (.int p6), .val (.int p7), .val (.int (Fg p2 p1)), .val (.int v8), .val (.int v13)] [(.int (1 : Int32))])) _
        exact Steps.refl _)
    obtain rfl := Option.some.inj hM
    obtain ⟨fs, hr, hrun, hended, hW, hsame⟩ := X17.leave (v := some (.int (1 : Int32))) (fun h => by rw [Bd.returns] at h; cases h)
    refine ⟨_, _, q22.trans ?_, hrun, hended, _, _, rfl, ?_, ⟨_, rfl⟩, hW, hsame.mono (by decide) (by decide)⟩
    · exact retN X17 hx (t := .boolean) Bd.returns (by simp) (hb hby d8_76) hr
    · show Q_rmA Z o0 p1 p2 p3 p4 p5 p6 p7 aP aS aQ xP xS xQ _ h0 n0 _ T17.heap _
      exact ⟨rfl, N17, KK17, J17_0⟩
  · rw [if_neg hc20] at hM
    have q23 : Steps p.tables e below (s₁.setTop (entryFrame m #[(.ref o0), (.int p1), (.int p2), (.int p3), (.int p4), (.int p5), (.int p6), (.int p7)] 11)) (T17.setTop (mkF m 75 #[.val (.ref o0), .val (.int p1), .val (.int p2), .val (.int p3), .val (.int p4), .val (.int p5), .val (.int p6), .val (.int p7), .val (.int (Fg p2 p1)), .val (.int v8), .val (.int v13)] [])) := q19.trans (by
        show Steps p.tables e below (T17.setTop (mkF m 68 #[.val (.ref o0), .val (.int p1), .val (.int p2), .val (.int p3), .val (.int p4), .val (.int p5), .val (.int p6), .val (.int p7), .val (.int (Fg p2 p1)), .val (.int v8), .val (.int v13)] [(.int v13), (.int r16.1)])) _
        refine XS.icmpYes X17.here hx rfl (pc0 := 68) (pc' := 75) rfl (hb hby d8_68) rfl (feq hc20).2 (by decide) (by decide) ?_
        show Steps p.tables e below (T17.setTop (mkF m 75 #[.val (.ref o0), .val (.int p1), .val (.int p2), .val (.int p3), .val (.int p4), .val (.int p5), .val (.int p6), .val (.int p7), .val (.int (Fg p2 p1)), .val (.int v8), .val (.int v13)] [])) _
        exact Steps.refl _)
    have q24 : Steps p.tables e below (s₁.setTop (entryFrame m #[(.ref o0), (.int p1), (.int p2), (.int p3), (.int p4), (.int p5), (.int p6), (.int p7)] 11)) (T17.setTop (mkF m 76 #[.val (.ref o0), .val (.int p1), .val (.int p2), .val (.int p3), .val (.int p4), .val (.int p5), .val (.int p6), .val (.int p7), .val (.int (Fg p2 p1)), .val (.int v8), .val (.int v13)] [(.int (0 : Int32))])) := q23.trans (by
        show Steps p.tables e below (T17.setTop (mkF m 75 #[.val (.ref o0), .val (.int p1), .val (.int p2), .val (.int p3), .val (.int p4), .val (.int p5), .val (.int p6), .val (.int p7), .val (.int (Fg p2 p1)), .val (.int v8), .val (.int v13)] [])) _
        refine XS.iconst X17.here hx rfl (hb hby d8_75) ?_
        show Steps p.tables e below (T17.setTop (mkF m 76 #[.val (.ref o0), .val (.int p1), .val (.int p2), .val (.int p3), .val (.int p4), .val (.int p5), .val (.int p6), .val (.int p7), .val (.int (Fg p2 p1)), .val (.int v8), .val (.int v13)] [(.int (0 : Int32))])) _
        exact Steps.refl _)
    obtain rfl := Option.some.inj hM
    obtain ⟨fs, hr, hrun, hended, hW, hsame⟩ := X17.leave (v := some (.int (0 : Int32))) (fun h => by rw [Bd.returns] at h; cases h)
    refine ⟨_, _, q24.trans ?_, hrun, hended, _, _, rfl, ?_, ⟨_, rfl⟩, hW, hsame.mono (by decide) (by decide)⟩
    · exact retN X17 hx (t := .boolean) Bd.returns (by simp) (hb hby d8_76) hr
    · show Q_rmA Z o0 p1 p2 p3 p4 p5 p6 p7 aP aS aQ xP xS xQ _ h0 n0 _ T17.heap _
      exact ⟨rfl, N17, KK17, J17_0⟩

theorem d1_33 : decode prog_35_method_1_code 33 = .ok (.iload_n 2, 1) := by decide +kernel
theorem d1_34 : decode prog_35_method_1_code 34 = .ok (.iload_n 1, 1) := by decide +kernel
theorem d1_35 : decode prog_35_method_1_code 35 = .ok (.if_icmp .gt 30, 3) := by decide +kernel
theorem d1_38 : decode prog_35_method_1_code 38 = .ok (.aload_n 0, 1) := by decide +kernel
theorem d1_39 : decode prog_35_method_1_code 39 = .ok (.getfield 7, 3) := by decide +kernel
theorem d1_42 : decode prog_35_method_1_code 42 = .ok (.iload_n 2, 1) := by decide +kernel
theorem d1_43 : decode prog_35_method_1_code 43 = .ok (.iload_n 2, 1) := by decide +kernel
theorem d1_44 : decode prog_35_method_1_code 44 = .ok (.iastore, 1) := by decide +kernel
theorem d1_45 : decode prog_35_method_1_code 45 = .ok (.aload_n 0, 1) := by decide +kernel
theorem d1_46 : decode prog_35_method_1_code 46 = .ok (.getfield 13, 3) := by decide +kernel
theorem d1_49 : decode prog_35_method_1_code 49 = .ok (.iload_n 2, 1) := by decide +kernel
theorem d1_50 : decode prog_35_method_1_code 50 = .ok (.iconst 1, 1) := by decide +kernel
theorem d1_51 : decode prog_35_method_1_code 51 = .ok (.iastore, 1) := by decide +kernel
theorem d1_52 : decode prog_35_method_1_code 52 = .ok (.aload_n 0, 1) := by decide +kernel
theorem d1_53 : decode prog_35_method_1_code 53 = .ok (.getfield 16, 3) := by decide +kernel
theorem d1_56 : decode prog_35_method_1_code 56 = .ok (.iload_n 2, 1) := by decide +kernel
theorem d1_57 : decode prog_35_method_1_code 57 = .ok (.iconst (-1), 1) := by decide +kernel
theorem d1_58 : decode prog_35_method_1_code 58 = .ok (.iastore, 1) := by decide +kernel
theorem d1_59 : decode prog_35_method_1_code 59 = .ok (.iinc 2 1, 3) := by decide +kernel
theorem d1_62 : decode prog_35_method_1_code 62 = .ok (.goto (-29), 3) := by decide +kernel
def M_lpC : Nat → Int32 → Int32 → List Int32 → List Int32 → List Int32 → Option (Int32 × List Int32 × List Int32 × List Int32)
  | 0, _, _, _, _, _ => none
  | k + 1, p1, i, xP, xS, xQ => (if p1 < i then some (i, xP, xS, xQ) else (Own.wt xP i i).bind fun y9 => (Own.wt xS i (1 : Int32)).bind fun y16 => (Own.wt xQ i (-1 : Int32)).bind fun y23 => M_lpC k p1 (i + (1 : Int32)) y9 y16 y23)
theorem M_lpC_s (k : Nat) (p1 : Int32) (i : Int32) (xP : List Int32) (xS : List Int32) (xQ : List Int32) : M_lpC (k + 1) p1 i xP xS xQ = (if p1 < i then some (i, xP, xS, xQ) else (Own.wt xP i i).bind fun y9 => (Own.wt xS i (1 : Int32)).bind fun y16 => (Own.wt xQ i (-1 : Int32)).bind fun y23 => M_lpC k p1 (i + (1 : Int32)) y9 y16 y23) := rfl
set_option maxRecDepth 65536 in
set_option maxHeartbeats 40000000 in
theorem lpC {p : Program} {l : Launch} {e : Env} {R : Room} {s : State} {m : MethodId} {args : Array Value} {below : List Frame} {meth : Method} {c : Code} {Z : State} {a0 : Array Value} {n0 cells slots : Nat} (hx : p.tables.exec = Jvm.exec) (hZ : Z.Warmed39 s.vm) (hw : ∀ d ∈ tables_1, d.before a0 Z = true) (hby : c.code = prog_35_method_1_code) (hml : c.maxLocals = 3) (hown : s.vm.findClass "com/example/tideplan/tideplan/planner/ForwardGroups" = some m.cls) (o0 aP aS aQ : Addr) (p1 : Int32) (ge_aP : n0 ≤ aP) (ge_aS : n0 ≤ aS) (ge_aQ : n0 ≤ aQ) (ne_aP_aS : aP ≠ aS) (ne_aP_aQ : aP ≠ aQ) (ne_aS_aQ : aS ≠ aQ) (ne_o0_aP : o0 ≠ aP) (ne_o0_aS : o0 ≠ aS) (ne_o0_aQ : o0 ≠ aQ) (k : Nat) : ∀ {T0 : State} {locs : List Loc} {h0 : Heap} (i : Int32) (xP : List Int32) (xS : List Int32) (xQ : List Int32)  (out : Int32 × List Int32 × List Int32 × List Int32) (hM : M_lpC k p1 i xP xS xQ = some out) (X0 : Stand p l e R s m args below meth c T0 locs cells slots) (e0 : T0.heap = h0) (N0 : Fr n0 locs) (Z0 : n0 ≤ h0.size)  (E_o0 : Exa Z h0 o0 "com/example/tideplan/tideplan/planner/ForwardGroups") (F_o0_parent : Fld Z h0 o0 "com/example/tideplan/tideplan/planner/ForwardGroups" "parent" "[I" (.ref aP)) (F_o0_size : Fld Z h0 o0 "com/example/tideplan/tideplan/planner/ForwardGroups" "size" "[I" (.ref aS)) (F_o0_parallelism : Fld Z h0 o0 "com/example/tideplan/tideplan/planner/ForwardGroups" "parallelism" "[I" (.ref aQ)) (I_aP : Own.IA Z h0 aP xP) (I_aS : Own.IA Z h0 aS xS) (I_aQ : Own.IA Z h0 aQ xQ),
    ∃ (T' : State) (locs' : List Loc) (h' : Heap) , Stand p l e R s m args below meth c T' locs' cells slots ∧ T'.heap = h' ∧ Fr n0 locs' ∧ n0 ≤ h'.size ∧ Keep h0 h' [aP, aS, aQ] ∧ Own.IA Z h' aP out.2.1 ∧ Own.IA Z h' aS out.2.2.1 ∧ Own.IA Z h' aQ out.2.2.2 ∧ Steps p.tables e below (T0.setTop (mkF m 33 #[.val (.ref o0), .val (.int p1), .val (.int i)] [])) (T'.setTop (mkF m 65 #[.val (.ref o0), .val (.int p1), .val (.int out.1)] [])) := by
  induction k with
  | zero => intro T0 locs h0 i xP xS xQ out hM X0 e0 N0 Z0 E_o0 F_o0_parent F_o0_size F_o0_parallelism I_aP I_aS I_aQ; cases hM
  | succ k ih =>
    intro T0 locs h0 i xP xS xQ out hM X0 e0 N0 Z0 E_o0 F_o0_parent F_o0_size F_o0_parallelism I_aP I_aS I_aQ
    rw [M_lpC_s] at hM
    have q0 : Steps p.tables e below (T0.setTop (mkF m 33 #[.val (.ref o0), .val (.int p1), .val (.int i)] [])) (T0.setTop (mkF m 33 #[.val (.ref o0), .val (.int p1), .val (.int i)] [])) := Steps.refl _
    have K0 : Keep h0 h0 [aP, aS, aQ] := Keep.refl _ _
    have q1 : Steps p.tables e below (T0.setTop (mkF m 33 #[.val (.ref o0), .val (.int p1), .val (.int i)] [])) (T0.setTop (mkF m 35 #[.val (.ref o0), .val (.int p1), .val (.int i)] [(.int p1), (.int i)])) := q0.trans (by
        show Steps p.tables e below (T0.setTop (mkF m 33 #[.val (.ref o0), .val (.int p1), .val (.int i)] [])) _
        refine XS.iloadN X0.here hx rfl (hb hby d1_33) rfl ?_
        show Steps p.tables e below (T0.setTop (mkF m 34 #[.val (.ref o0), .val (.int p1), .val (.int i)] [(.int i)])) _
        refine XS.iloadN X0.here hx rfl (hb hby d1_34) rfl ?_
        show Steps p.tables e below (T0.setTop (mkF m 35 #[.val (.ref o0), .val (.int p1), .val (.int i)] [(.int p1), (.int i)])) _
        exact Steps.refl _)
    by_cases hc2 : p1 < i
    · rw [if_pos hc2] at hM
      have q3 : Steps p.tables e below (T0.setTop (mkF m 33 #[.val (.ref o0), .val (.int p1), .val (.int i)] [])) (T0.setTop (mkF m 65 #[.val (.ref o0), .val (.int p1), .val (.int i)] [])) := q1.trans (by
          show Steps p.tables e below (T0.setTop (mkF m 35 #[.val (.ref o0), .val (.int p1), .val (.int i)] [(.int p1), (.int i)])) _
          refine XS.icmpYes X0.here hx rfl (pc0 := 35) (pc' := 65) rfl (hb hby d1_35) rfl (tlt hc2).2.2.1 (by decide) (by decide) ?_
          show Steps p.tables e below (T0.setTop (mkF m 65 #[.val (.ref o0), .val (.int p1), .val (.int i)] [])) _
          exact Steps.refl _)
      obtain rfl := Option.some.inj hM
      exact ⟨_, _, _, X0, e0, N0, Z0, K0, I_aP, I_aS, I_aQ, q3⟩
    · rw [if_neg hc2] at hM
      have q4 : Steps p.tables e below (T0.setTop (mkF m 33 #[.val (.ref o0), .val (.int p1), .val (.int i)] [])) (T0.setTop (mkF m 38 #[.val (.ref o0), .val (.int p1), .val (.int i)] [])) := q1.trans (by
          show Steps p.tables e below (T0.setTop (mkF m 35 #[.val (.ref o0), .val (.int p1), .val (.int i)] [(.int p1), (.int i)])) _
          refine XS.icmpNo X0.here hx rfl (hb hby d1_35) rfl (flt hc2).2.2.1 ?_
          show Steps p.tables e below (T0.setTop (mkF m 38 #[.val (.ref o0), .val (.int p1), .val (.int i)] [])) _
          exact Steps.refl _)
      have q5 : Steps p.tables e below (T0.setTop (mkF m 33 #[.val (.ref o0), .val (.int p1), .val (.int i)] [])) (T0.setTop (mkF m 39 #[.val (.ref o0), .val (.int p1), .val (.int i)] [(.ref o0)])) := q4.trans (by
          show Steps p.tables e below (T0.setTop (mkF m 38 #[.val (.ref o0), .val (.int p1), .val (.int i)] [])) _
          refine XS.aloadN X0.here hx rfl (hb hby d1_38) rfl rfl ?_
          show Steps p.tables e below (T0.setTop (mkF m 39 #[.val (.ref o0), .val (.int p1), .val (.int i)] [(.ref o0)])) _
          exact Steps.refl _)
      obtain ⟨T6, X6, e6, st6⟩ := getF X0 hx hZ hown (host := "") (Or.inl (hw _ (List.mem_of_getElem? (i := 10) rfl))) Via.refl e0 F_o0_parent (g := (mkF m 39 #[.val (.ref o0), .val (.int p1), .val (.int i)] [(.ref o0)])) rfl rfl (hb hby d1_39)
      have q7 : Steps p.tables e below (T0.setTop (mkF m 33 #[.val (.ref o0), .val (.int p1), .val (.int i)] [])) (T6.setTop (mkF m 42 #[.val (.ref o0), .val (.int p1), .val (.int i)] [(.ref aP)])) := q5.trans (st6 _ (Steps.refl _))
      have q8 : Steps p.tables e below (T0.setTop (mkF m 33 #[.val (.ref o0), .val (.int p1), .val (.int i)] [])) (T6.setTop (mkF m 44 #[.val (.ref o0), .val (.int p1), .val (.int i)] [(.int i), (.int i), (.ref aP)])) := q7.trans (by
          show Steps p.tables e below (T6.setTop (mkF m 42 #[.val (.ref o0), .val (.int p1), .val (.int i)] [(.ref aP)])) _
          refine XS.iloadN X6.here hx rfl (hb hby d1_42) rfl ?_
          show Steps p.tables e below (T6.setTop (mkF m 43 #[.val (.ref o0), .val (.int p1), .val (.int i)] [(.int i), (.ref aP)])) _
          refine XS.iloadN X6.here hx rfl (hb hby d1_43) rfl ?_
          show Steps p.tables e below (T6.setTop (mkF m 44 #[.val (.ref o0), .val (.int p1), .val (.int i)] [(.int i), (.int i), (.ref aP)])) _
          exact Steps.refl _)
      obtain ⟨y9, hy9, hM⟩ := Option.bind_eq_some_iff.mp hM
      obtain ⟨T10, h10, X10, e10, W10, J10, st10⟩ := Own.stO X6 hx hZ e6 I_aP hy9 (g := (mkF m 44 #[.val (.ref o0), .val (.int p1), .val (.int i)] [(.int i), (.int i), (.ref aP)])) rfl rfl (hb hby d1_44)
      have N10 := Fr.snoc X10 N0 ge_aP
      have IaS_10 := I_aS.other W10 (Ne.symm ne_aP_aS)
      have IaQ_10 := I_aQ.other W10 (Ne.symm ne_aP_aQ)
      have Xo0_10 := E_o0.wr W10
      have Fo0_parent_10 := F_o0_parent.other W10 (Or.inl ne_o0_aP)
      have Fo0_size_10 := F_o0_size.other W10 (Or.inl ne_o0_aP)
      have Fo0_parallelism_10 := F_o0_parallelism.other W10 (Or.inl ne_o0_aP)
      have Z10 : n0 ≤ h10.size := Own.size_wr W10 Z0
      have K10 : Keep h0 h10 [aP, aS, aQ] := K0.wr W10 (Or.inl (List.mem_of_getElem? (i := 0) rfl))
      have q11 : Steps p.tables e below (T0.setTop (mkF m 33 #[.val (.ref o0), .val (.int p1), .val (.int i)] [])) (T10.setTop (mkF m 45 #[.val (.ref o0), .val (.int p1), .val (.int i)] [])) := q8.trans (st10 _ (Steps.refl _))
      have q12 : Steps p.tables e below (T0.setTop (mkF m 33 #[.val (.ref o0), .val (.int p1), .val (.int i)] [])) (T10.setTop (mkF m 46 #[.val (.ref o0), .val (.int p1), .val (.int i)] [(.ref o0)])) := q11.trans (by
          show Steps p.tables e below (T10.setTop (mkF m 45 #[.val (.ref o0), .val (.int p1), .val (.int i)] [])) _
          refine XS.aloadN X10.here hx rfl (hb hby d1_45) rfl rfl ?_
          show Steps p.tables e below (T10.setTop (mkF m 46 #[.val (.ref o0), .val (.int p1), .val (.int i)] [(.ref o0)])) _
          exact Steps.refl _)
      obtain ⟨T13, X13, e13, st13⟩ := getF X10 hx hZ hown (host := "") (Or.inl (hw _ (List.mem_of_getElem? (i := 12) rfl))) Via.refl e10 Fo0_size_10 (g := (mkF m 46 #[.val (.ref o0), .val (.int p1), .val (.int i)] [(.ref o0)])) rfl rfl (hb hby d1_46)
      have q14 : Steps p.tables e below (T0.setTop (mkF m 33 #[.val (.ref o0), .val (.int p1), .val (.int i)] [])) (T13.setTop (mkF m 49 #[.val (.ref o0), .val (.int p1), .val (.int i)] [(.ref aS)])) := q12.trans (st13 _ (Steps.refl _))
      have q15 : Steps p.tables e below (T0.setTop (mkF m 33 #[.val (.ref o0), .val (.int p1), .val (.int i)] [])) (T13.setTop (mkF m 51 #[.val (.ref o0), .val (.int p1), .val (.int i)] [(.int (1 : Int32)), (.int i), (.ref aS)])) := q14.trans (by
          show Steps p.tables e below (T13.setTop (mkF m 49 #[.val (.ref o0), .val (.int p1), .val (.int i)] [(.ref aS)])) _
          refine XS.iloadN X13.here hx rfl (hb hby d1_49) rfl ?_
          show Steps p.tables e below (T13.setTop (mkF m 50 #[.val (.ref o0), .val (.int p1), .val (.int i)] [(.int i), (.ref aS)])) _
          refine XS.iconst X13.here hx rfl (hb hby d1_50) ?_
          show Steps p.tables e below (T13.setTop (mkF m 51 #[.val (.ref o0), .val (.int p1), .val (.int i)] [(.int (1 : Int32)), (.int i), (.ref aS)])) _
          exact Steps.refl _)
      obtain ⟨y16, hy16, hM⟩ := Option.bind_eq_some_iff.mp hM
      obtain ⟨T17, h17, X17, e17, W17, J17, st17⟩ := Own.stO X13 hx hZ e13 IaS_10 hy16 (g := (mkF m 51 #[.val (.ref o0), .val (.int p1), .val (.int i)] [(.int (1 : Int32)), (.int i), (.ref aS)])) rfl rfl (hb hby d1_51)
      have N17 := Fr.snoc X17 N10 ge_aS
      have IaP_17 := J10.other W17 ne_aP_aS
      have IaQ_17 := IaQ_10.other W17 (Ne.symm ne_aS_aQ)
      have Xo0_17 := Xo0_10.wr W17
      have Fo0_parent_17 := Fo0_parent_10.other W17 (Or.inl ne_o0_aS)
      have Fo0_size_17 := Fo0_size_10.other W17 (Or.inl ne_o0_aS)
      have Fo0_parallelism_17 := Fo0_parallelism_10.other W17 (Or.inl ne_o0_aS)
      have Z17 : n0 ≤ h17.size := Own.size_wr W17 Z10
      have K17 : Keep h0 h17 [aP, aS, aQ] := K10.wr W17 (Or.inl (List.mem_of_getElem? (i := 1) rfl))
      have q18 : Steps p.tables e below (T0.setTop (mkF m 33 #[.val (.ref o0), .val (.int p1), .val (.int i)] [])) (T17.setTop (mkF m 52 #[.val (.ref o0), .val (.int p1), .val (.int i)] [])) := q15.trans (st17 _ (Steps.refl _))
      have q19 : Steps p.tables e below (T0.setTop (mkF m 33 #[.val (.ref o0), .val (.int p1), .val (.int i)] [])) (T17.setTop (mkF m 53 #[.val (.ref o0), .val (.int p1), .val (.int i)] [(.ref o0)])) := q18.trans (by
          show Steps p.tables e below (T17.setTop (mkF m 52 #[.val (.ref o0), .val (.int p1), .val (.int i)] [])) _
          refine XS.aloadN X17.here hx rfl (hb hby d1_52) rfl rfl ?_
          show Steps p.tables e below (T17.setTop (mkF m 53 #[.val (.ref o0), .val (.int p1), .val (.int i)] [(.ref o0)])) _
          exact Steps.refl _)
      obtain ⟨T20, X20, e20, st20⟩ := getF X17 hx hZ hown (host := "") (Or.inl (hw _ (List.mem_of_getElem? (i := 14) rfl))) Via.refl e17 Fo0_parallelism_17 (g := (mkF m 53 #[.val (.ref o0), .val (.int p1), .val (.int i)] [(.ref o0)])) rfl rfl (hb hby d1_53)
      have q21 : Steps p.tables e below (T0.setTop (mkF m 33 #[.val (.ref o0), .val (.int p1), .val (.int i)] [])) (T20.setTop (mkF m 56 #[.val (.ref o0), .val (.int p1), .val (.int i)] [(.ref aQ)])) := q19.trans (st20 _ (Steps.refl _))
      have q22 : Steps p.tables e below (T0.setTop (mkF m 33 #[.val (.ref o0), .val (.int p1), .val (.int i)] [])) (T20.setTop (mkF m 58 #[.val (.ref o0), .val (.int p1), .val (.int i)] [(.int (-1 : Int32)), (.int i), (.ref aQ)])) := q21.trans (by
          show Steps p.tables e below (T20.setTop (mkF m 56 #[.val (.ref o0), .val (.int p1), .val (.int i)] [(.ref aQ)])) _
          refine XS.iloadN X20.here hx rfl (hb hby d1_56) rfl ?_
          show Steps p.tables e below (T20.setTop (mkF m 57 #[.val (.ref o0), .val (.int p1), .val (.int i)] [(.int i), (.ref aQ)])) _
          refine XS.iconst X20.here hx rfl (hb hby d1_57) ?_
          show Steps p.tables e below (T20.setTop (mkF m 58 #[.val (.ref o0), .val (.int p1), .val (.int i)] [(.int (-1 : Int32)), (.int i), (.ref aQ)])) _
          exact Steps.refl _)
      obtain ⟨y23, hy23, hM⟩ := Option.bind_eq_some_iff.mp hM
      obtain ⟨T24, h24, X24, e24, W24, J24, st24⟩ := Own.stO X20 hx hZ e20 IaQ_17 hy23 (g := (mkF m 58 #[.val (.ref o0), .val (.int p1), .val (.int i)] [(.int (-1 : Int32)), (.int i), (.ref aQ)])) rfl rfl (hb hby d1_58)
      have N24 := Fr.snoc X24 N17 ge_aQ
      have IaP_24 := IaP_17.other W24 ne_aP_aQ
      have IaS_24 := J17.other W24 ne_aS_aQ
      have Xo0_24 := Xo0_17.wr W24
      have Fo0_parent_24 := Fo0_parent_17.other W24 (Or.inl ne_o0_aQ)
      have Fo0_size_24 := Fo0_size_17.other W24 (Or.inl ne_o0_aQ)
      have Fo0_parallelism_24 := Fo0_parallelism_17.other W24 (Or.inl ne_o0_aQ)
      have Z24 : n0 ≤ h24.size := Own.size_wr W24 Z17
      have K24 : Keep h0 h24 [aP, aS, aQ] := K17.wr W24 (Or.inl (List.mem_of_getElem? (i := 2) rfl))
      have q25 : Steps p.tables e below (T0.setTop (mkF m 33 #[.val (.ref o0), .val (.int p1), .val (.int i)] [])) (T24.setTop (mkF m 59 #[.val (.ref o0), .val (.int p1), .val (.int i)] [])) := q22.trans (st24 _ (Steps.refl _))
      have q26 : Steps p.tables e below (T0.setTop (mkF m 33 #[.val (.ref o0), .val (.int p1), .val (.int i)] [])) (T24.setTop (mkF m 33 #[.val (.ref o0), .val (.int p1), .val (.int (i + (1 : Int32)))] [])) := q25.trans (by
          show Steps p.tables e below (T24.setTop (mkF m 59 #[.val (.ref o0), .val (.int p1), .val (.int i)] [])) _
          refine XS.iinc X24.here hx rfl (hb hby d1_59) rfl (l' := #[.val (.ref o0), .val (.int p1), .val (.int (i + (1 : Int32)))]) rfl ?_
          show Steps p.tables e below (T24.setTop (mkF m 62 #[.val (.ref o0), .val (.int p1), .val (.int (i + (1 : Int32)))] [])) _
          refine XS.goto X24.here hx rfl (pc0 := 62) (pc' := 33) rfl (hb hby d1_62) (by decide) (by decide) ?_
          show Steps p.tables e below (T24.setTop (mkF m 33 #[.val (.ref o0), .val (.int p1), .val (.int (i + (1 : Int32)))] [])) _
          exact Steps.refl _)
      obtain ⟨T', locs', h', X', e', N', Z', K', J0', J1', J2', q'⟩ := ih (i + (1 : Int32)) y9 y16 y23  _ hM X24 e24 N24 Z24  Xo0_24 Fo0_parent_24 Fo0_size_24 Fo0_parallelism_24 IaP_24 IaS_24 J24
      exact ⟨T', locs', h', X', e', N', Z', K24.trans K' (fun _ hx' => Or.inl hx'), J0', J1', J2', q26.trans q'⟩

theorem d1_0 : decode prog_35_method_1_code 0 = .ok (.aload_n 0, 1) := by decide +kernel
theorem d1_1 : decode prog_35_method_1_code 1 = .ok (.invokespecial 1, 3) := by decide +kernel
theorem d1_4 : decode prog_35_method_1_code 4 = .ok (.aload_n 0, 1) := by decide +kernel
theorem d1_5 : decode prog_35_method_1_code 5 = .ok (.iload_n 1, 1) := by decide +kernel
theorem d1_6 : decode prog_35_method_1_code 6 = .ok (.iconst 1, 1) := by decide +kernel
theorem d1_7 : decode prog_35_method_1_code 7 = .ok (.iadd, 1) := by decide +kernel
theorem d1_8 : decode prog_35_method_1_code 8 = .ok (.newarray .int, 2) := by decide +kernel
theorem d1_10 : decode prog_35_method_1_code 10 = .ok (.putfield 7, 3) := by decide +kernel
theorem d1_13 : decode prog_35_method_1_code 13 = .ok (.aload_n 0, 1) := by decide +kernel
theorem d1_14 : decode prog_35_method_1_code 14 = .ok (.iload_n 1, 1) := by decide +kernel
theorem d1_15 : decode prog_35_method_1_code 15 = .ok (.iconst 1, 1) := by decide +kernel
theorem d1_16 : decode prog_35_method_1_code 16 = .ok (.iadd, 1) := by decide +kernel
theorem d1_17 : decode prog_35_method_1_code 17 = .ok (.newarray .int, 2) := by decide +kernel
theorem d1_19 : decode prog_35_method_1_code 19 = .ok (.putfield 13, 3) := by decide +kernel
theorem d1_22 : decode prog_35_method_1_code 22 = .ok (.aload_n 0, 1) := by decide +kernel
theorem d1_23 : decode prog_35_method_1_code 23 = .ok (.iload_n 1, 1) := by decide +kernel
theorem d1_24 : decode prog_35_method_1_code 24 = .ok (.iconst 1, 1) := by decide +kernel
theorem d1_25 : decode prog_35_method_1_code 25 = .ok (.iadd, 1) := by decide +kernel
theorem d1_26 : decode prog_35_method_1_code 26 = .ok (.newarray .int, 2) := by decide +kernel
theorem d1_28 : decode prog_35_method_1_code 28 = .ok (.putfield 16, 3) := by decide +kernel
theorem d1_31 : decode prog_35_method_1_code 31 = .ok (.iconst 0, 1) := by decide +kernel
theorem d1_32 : decode prog_35_method_1_code 32 = .ok (.istore_n 2, 1) := by decide +kernel
theorem d1_65 : decode prog_35_method_1_code 65 = .ok (.return_, 1) := by decide +kernel
theorem pn_rmC : plainName "com/example/tideplan/tideplan/planner/ForwardGroups" = true := by first | (simp [plainName, overriddenIn]; done) | decide +kernel
theorem ef_rmC (m : MethodId) (o0 : Addr) (p1 : Int32) : entryFrame m #[(.ref o0), (.int p1)] 3 = mkF m 0 #[.val (.ref o0), .val (.int p1), .unset] [] := by first | (simp [entryFrame, mkF, argsToLocals, Value.category]; done) | rfl
def M_new (p1 : Int32) : Option (List Int32 × List Int32 × List Int32) := (Own.mk 4 (p1 + (1 : Int32))).bind fun y5 => (Own.mk 4 (p1 + (1 : Int32))).bind fun y11 => (Own.mk 4 (p1 + (1 : Int32))).bind fun y17 => (M_lpC 8 p1 (0 : Int32) y5 y11 y17).bind fun r23 => some (r23.2.1, r23.2.2.1, r23.2.2.2)
def Q_rmC (Z : State) (o0 : Addr) (p1 : Int32) (out : List Int32 × List Int32 × List Int32) (h0 : Heap) (n0 : Nat) (v : Option Value) (h : Heap) (L : List Loc) : Prop := ∃ aP aS aQ : Addr, v = none ∧ Fr n0 L ∧ Keep h0 h [o0] ∧ Exa Z h o0 "com/example/tideplan/tideplan/planner/ForwardGroups" ∧ Fld Z h o0 "com/example/tideplan/tideplan/planner/ForwardGroups" "parent" "[I" (.ref aP) ∧ Fld Z h o0 "com/example/tideplan/tideplan/planner/ForwardGroups" "size" "[I" (.ref aS) ∧ Fld Z h o0 "com/example/tideplan/tideplan/planner/ForwardGroups" "parallelism" "[I" (.ref aQ) ∧ Own.IA Z h aP out.1 ∧ Own.IA Z h aS out.2.1 ∧ Own.IA Z h aQ out.2.2 ∧ h0.size ≤ aP ∧ h0.size ≤ aS ∧ h0.size ≤ aQ ∧ aP ≠ aS ∧ aP ≠ aQ ∧ aS ≠ aQ
set_option maxRecDepth 65536 in
set_option maxHeartbeats 40000000 in
theorem rmC (l : Launch) (Z : State) (a0 : Array Value) (hw : ∀ d ∈ tables_1, d.before a0 Z = true) (ws : List Jvm.Cond) (o0 : Addr) (p1 : Int32) (out : List Int32 × List Int32 × List Int32) (h0 : Heap) (n0 : Nat) (Z0 : n0 ≤ h0.size) (F_o0_parent : Fld Z h0 o0 "com/example/tideplan/tideplan/planner/ForwardGroups" "parent" "[I" .null) (F_o0_size : Fld Z h0 o0 "com/example/tideplan/tideplan/planner/ForwardGroups" "size" "[I" .null) (F_o0_parallelism : Fld Z h0 o0 "com/example/tideplan/tideplan/planner/ForwardGroups" "parallelism" "[I" .null) (E_o0 : Exa Z h0 o0 "com/example/tideplan/tideplan/planner/ForwardGroups") (ge_o0 : n0 ≤ o0) (hM : M_new p1 = some out) :
    MetFree l (⟨"com/example/tideplan/tideplan/planner/ForwardGroups", "<init>", "(I)V"⟩ : MethodName) (head1 (Jvm.Cond.code (⟨"com/example/tideplan/tideplan/planner/ForwardGroups", "<init>", "(I)V"⟩ : MethodName) prog_35_method_1_code 3 none :: ws) ({ frames := 1, cells := 3, slots := 12, locals := 12 } : Room)) (fun a U => a = #[(.ref o0), (.int p1)] ∧ Z.Warmed39 U.vm ∧ U.heap = h0) (fun _ _ _ _ _ => True) (fun _ U o U' => ∃ v L, o = .returned v ∧ Q_rmC Z o0 p1 out h0 n0 v U'.heap L ∧ FrameEnd U o U' L ({ frames := 1, cells := 3, slots := 12, locals := 12 } : Room).cells ({ frames := 1, cells := 3, slots := 12, locals := 12 } : Room).slots) := by
  refine MetFree.of_bodySF (plainFor_of_name pn_rmC) hisR ?_
  intro p e s m args below meth c s₁ Bd hml0 hP hK
  obtain ⟨rfl, hZ, hh⟩ := hP
  have hx := Bd.exec
  have hby := Bd.bytes
  have hml : c.maxLocals = 3 := hml0
  have hown : s.vm.findClass "com/example/tideplan/tideplan/planner/ForwardGroups" = some m.cls := findClass_of_methodNamed Bd.named
  have hnm := (name_of_methodNamed Bd.named Bd.method).1
  have X0 : Stand p l e ({ frames := 1, cells := 3, slots := 12, locals := 12 } : Room) s m #[(.ref o0), (.int p1)] below meth c s₁ [] 0 0 := Stand.of_body Bd
  have e0 : s₁.heap = h0 := by rw [← hh, Bd.state]; rfl
  have N0 := Fr.nil n0
  have q0 : Steps p.tables e below (s₁.setTop (entryFrame m #[(.ref o0), (.int p1)] 3)) (s₁.setTop (mkF m 0 #[.val (.ref o0), .val (.int p1), .unset] [])) := castTop (ef_rmC m o0 p1) (Steps.refl _)
  unfold M_new at hM
  have K0 : Keep h0 h0 [o0] := Keep.refl _ _
  have q1 : Steps p.tables e below (s₁.setTop (entryFrame m #[(.ref o0), (.int p1)] 3)) (s₁.setTop (mkF m 1 #[.val (.ref o0), .val (.int p1), .unset] [(.ref o0)])) := q0.trans (by
      show Steps p.tables e below (s₁.setTop (mkF m 0 #[.val (.ref o0), .val (.int p1), .unset] [])) _
      refine XS.aloadN X0.here hx rfl (hb hby d1_0) rfl rfl ?_
      show Steps p.tables e below (s₁.setTop (mkF m 1 #[.val (.ref o0), .val (.int p1), .unset] [(.ref o0)])) _
      exact Steps.refl _)
  obtain ⟨T2, X2, e2, st2⟩ := initO X0 hx hZ hown (hw _ (List.mem_of_getElem? (i := 6) rfl)) (hw _ (List.mem_of_getElem? (i := 7) rfl)) (hw _ (List.mem_of_getElem? (i := 8) rfl)) e0 (g := (mkF m 1 #[.val (.ref o0), .val (.int p1), .unset] [(.ref o0)])) rfl (by rw [hml]; rfl) rfl (hb hby d1_1) (by decide) (W := 0) (by show 2 * 0 + _ ≤ _; exact Nat.le_of_eq rfl) (by decide)
  have q3 : Steps p.tables e below (s₁.setTop (entryFrame m #[(.ref o0), (.int p1)] 3)) (T2.setTop (mkF m 4 #[.val (.ref o0), .val (.int p1), .unset] [])) := q1.trans (st2 _ (Steps.refl _))
  have q4 : Steps p.tables e below (s₁.setTop (entryFrame m #[(.ref o0), (.int p1)] 3)) (T2.setTop (mkF m 8 #[.val (.ref o0), .val (.int p1), .unset] [(.int (p1 + (1 : Int32))), (.ref o0)])) := q3.trans (by
      show Steps p.tables e below (T2.setTop (mkF m 4 #[.val (.ref o0), .val (.int p1), .unset] [])) _
      refine XS.aloadN X2.here hx rfl (hb hby d1_4) rfl rfl ?_
      show Steps p.tables e below (T2.setTop (mkF m 5 #[.val (.ref o0), .val (.int p1), .unset] [(.ref o0)])) _
      refine XS.iloadN X2.here hx rfl (hb hby d1_5) rfl ?_
      show Steps p.tables e below (T2.setTop (mkF m 6 #[.val (.ref o0), .val (.int p1), .unset] [(.int p1), (.ref o0)])) _
      refine XS.iconst X2.here hx rfl (hb hby d1_6) ?_
      show Steps p.tables e below (T2.setTop (mkF m 7 #[.val (.ref o0), .val (.int p1), .unset] [(.int (1 : Int32)), (.int p1), (.ref o0)])) _
      refine XS.iadd X2.here hx rfl (hb hby d1_7) rfl ?_
      show Steps p.tables e below (T2.setTop (mkF m 8 #[.val (.ref o0), .val (.int p1), .unset] [(.int (p1 + (1 : Int32))), (.ref o0)])) _
      exact Steps.refl _)
  obtain ⟨y5, hy5, hM⟩ := Option.bind_eq_some_iff.mp hM
  obtain ⟨T6, h6, k6, X6, e6, E6, A6, AE6, st6⟩ := newPE X2 hx hZ (hw _ (List.mem_of_getElem? (i := 9) rfl)) e2 (g := (mkF m 8 #[.val (.ref o0), .val (.int p1), .unset] [(.int (p1 + (1 : Int32))), (.ref o0)])) rfl (hb hby d1_8) rfl (Own.mk_some hy5).1 (cap := 4) (Own.mk_some hy5).2.1 (by decide) (by decide) (by decide) (ad := "[I") (by decide)
  obtain ⟨aP, g6⟩ : ∃ z, z = h0.size := ⟨_, rfl⟩
  rw [← g6] at A6 AE6 st6
  have ge_aP : n0 ≤ aP := Nat.le_trans Z0 (Nat.le_of_eq g6.symm)
  have ne_o0_aP : o0 ≠ aP := Nat.ne_of_lt (Nat.lt_of_lt_of_le E_o0.lt (Nat.le_of_eq g6.symm))
  have old_aP : h0.size ≤ aP := Nat.le_trans K0.1 (Nat.le_of_eq g6.symm)
  have Xo0_6 := E_o0.ext E6
  have Fo0_parent_6 := F_o0_parent.ext E6
  have Fo0_size_6 := F_o0_size.ext E6
  have Fo0_parallelism_6 := F_o0_parallelism.ext E6
  have Z6 : n0 ≤ h6.size := Nat.le_trans Z0 E6.1
  have K6 : Keep h0 h6 [o0] := K0.ext E6
  have I_aP : Own.IA Z h6 aP y5 := (Own.mk_some hy5).2.2 ▸ Own.IA.new A6 rfl
  have q7 : Steps p.tables e below (s₁.setTop (entryFrame m #[(.ref o0), (.int p1)] 3)) (T6.setTop (mkF m 10 #[.val (.ref o0), .val (.int p1), .unset] [(.ref aP), (.ref o0)])) := q4.trans (st6 _ (Steps.refl _))
  obtain ⟨T8, h8, X8, e8, W8, st8⟩ := putF X6 hx hZ hown (host := "") (Or.inl (hw _ (List.mem_of_getElem? (i := 10) rfl))) Via.refl e6 Fo0_parent_6 Xo0_6 (Or.inr ⟨(hw _ (List.mem_of_getElem? (i := 11) rfl)), rfl, hnm⟩) (hw _ (List.mem_of_getElem? (i := 1) rfl)) (ty := (.array .int)) (by decide) rfl rfl (g := (mkF m 10 #[.val (.ref o0), .val (.int p1), .unset] [(.ref aP), (.ref o0)])) rfl rfl (hb hby d1_10)
  have N8 := Fr.snoc X8 N0 ge_o0
  have IaP_8 := I_aP.other W8 (Ne.symm ne_o0_aP)
  have Xo0_8 := Xo0_6.wr W8
  have Fo0_size_8 := Fo0_size_6.other W8 (Or.inr (slot_ne (Or.inr (hw _ (List.mem_of_getElem? (i := 13) rfl))) (Or.inr (hw _ (List.mem_of_getElem? (i := 11) rfl))) (by decide) (t := (.array .int)) (t' := (.array .int)) (by decide) (by decide)))
  have Fo0_parallelism_8 := Fo0_parallelism_6.other W8 (Or.inr (slot_ne (Or.inr (hw _ (List.mem_of_getElem? (i := 15) rfl))) (Or.inr (hw _ (List.mem_of_getElem? (i := 11) rfl))) (by decide) (t := (.array .int)) (t' := (.array .int)) (by decide) (by decide)))
  have Z8 : n0 ≤ h8.size := Own.size_wr W8 Z6
  have K8 : Keep h0 h8 [o0] := K6.wr W8 (Or.inl (List.mem_of_getElem? (i := 0) rfl))
  have Fo0_parent_8 := Fo0_parent_6.same W8
  have q9 : Steps p.tables e below (s₁.setTop (entryFrame m #[(.ref o0), (.int p1)] 3)) (T8.setTop (mkF m 13 #[.val (.ref o0), .val (.int p1), .unset] [])) := q7.trans (st8 _ (Steps.refl _))
  have q10 : Steps p.tables e below (s₁.setTop (entryFrame m #[(.ref o0), (.int p1)] 3)) (T8.setTop (mkF m 17 #[.val (.ref o0), .val (.int p1), .unset] [(.int (p1 + (1 : Int32))), (.ref o0)])) := q9.trans (by
      show Steps p.tables e below (T8.setTop (mkF m 13 #[.val (.ref o0), .val (.int p1), .unset] [])) _
      refine XS.aloadN X8.here hx rfl (hb hby d1_13) rfl rfl ?_
      show Steps p.tables e below (T8.setTop (mkF m 14 #[.val (.ref o0), .val (.int p1), .unset] [(.ref o0)])) _
      refine XS.iloadN X8.here hx rfl (hb hby d1_14) rfl ?_
      show Steps p.tables e below (T8.setTop (mkF m 15 #[.val (.ref o0), .val (.int p1), .unset] [(.int p1), (.ref o0)])) _
      refine XS.iconst X8.here hx rfl (hb hby d1_15) ?_
      show Steps p.tables e below (T8.setTop (mkF m 16 #[.val (.ref o0), .val (.int p1), .unset] [(.int (1 : Int32)), (.int p1), (.ref o0)])) _
      refine XS.iadd X8.here hx rfl (hb hby d1_16) rfl ?_
      show Steps p.tables e below (T8.setTop (mkF m 17 #[.val (.ref o0), .val (.int p1), .unset] [(.int (p1 + (1 : Int32))), (.ref o0)])) _
      exact Steps.refl _)
  obtain ⟨y11, hy11, hM⟩ := Option.bind_eq_some_iff.mp hM
  obtain ⟨T12, h12, k12, X12, e12, E12, A12, AE12, st12⟩ := newPE X8 hx hZ (hw _ (List.mem_of_getElem? (i := 9) rfl)) e8 (g := (mkF m 17 #[.val (.ref o0), .val (.int p1), .unset] [(.int (p1 + (1 : Int32))), (.ref o0)])) rfl (hb hby d1_17) rfl (Own.mk_some hy11).1 (cap := 4) (Own.mk_some hy11).2.1 (by decide) (by decide) (by decide) (ad := "[I") (by decide)
  obtain ⟨aS, g12⟩ : ∃ z, z = h8.size := ⟨_, rfl⟩
  rw [← g12] at A12 AE12 st12
  have ge_aS : n0 ≤ aS := Nat.le_trans Z8 (Nat.le_of_eq g12.symm)
  have ne_aP_aS : aP ≠ aS := Nat.ne_of_lt (Nat.lt_of_lt_of_le IaP_8.lt (Nat.le_of_eq g12.symm))
  have ne_o0_aS : o0 ≠ aS := Nat.ne_of_lt (Nat.lt_of_lt_of_le Xo0_8.lt (Nat.le_of_eq g12.symm))
  have old_aS : h0.size ≤ aS := Nat.le_trans K8.1 (Nat.le_of_eq g12.symm)
  have IaP_12 := IaP_8.ext E12
  have Xo0_12 := Xo0_8.ext E12
  have Fo0_parent_12 := Fo0_parent_8.ext E12
  have Fo0_size_12 := Fo0_size_8.ext E12
  have Fo0_parallelism_12 := Fo0_parallelism_8.ext E12
  have Z12 : n0 ≤ h12.size := Nat.le_trans Z8 E12.1
  have K12 : Keep h0 h12 [o0] := K8.ext E12
  have I_aS : Own.IA Z h12 aS y11 := (Own.mk_some hy11).2.2 ▸ Own.IA.new A12 rfl
  have q13 : Steps p.tables e below (s₁.setTop (entryFrame m #[(.ref o0), (.int p1)] 3)) (T12.setTop (mkF m 19 #[.val (.ref o0), .val (.int p1), .unset] [(.ref aS), (.ref o0)])) := q10.trans (st12 _ (Steps.refl _))
  obtain ⟨T14, h14, X14, e14, W14, st14⟩ := putF X12 hx hZ hown (host := "") (Or.inl (hw _ (List.mem_of_getElem? (i := 12) rfl))) Via.refl e12 Fo0_size_12 Xo0_12 (Or.inr ⟨(hw _ (List.mem_of_getElem? (i := 13) rfl)), rfl, hnm⟩) (hw _ (List.mem_of_getElem? (i := 1) rfl)) (ty := (.array .int)) (by decide) rfl rfl (g := (mkF m 19 #[.val (.ref o0), .val (.int p1), .unset] [(.ref aS), (.ref o0)])) rfl rfl (hb hby d1_19)
  have N14 := Fr.snoc X14 N8 ge_o0
  have IaP_14 := IaP_12.other W14 (Ne.symm ne_o0_aP)
  have IaS_14 := I_aS.other W14 (Ne.symm ne_o0_aS)
  have Xo0_14 := Xo0_12.wr W14
  have Fo0_parent_14 := Fo0_parent_12.other W14 (Or.inr (slot_ne (Or.inr (hw _ (List.mem_of_getElem? (i := 11) rfl))) (Or.inr (hw _ (List.mem_of_getElem? (i := 13) rfl))) (by decide) (t := (.array .int)) (t' := (.array .int)) (by decide) (by decide)))
  have Fo0_parallelism_14 := Fo0_parallelism_12.other W14 (Or.inr (slot_ne (Or.inr (hw _ (List.mem_of_getElem? (i := 15) rfl))) (Or.inr (hw _ (List.mem_of_getElem? (i := 13) rfl))) (by decide) (t := (.array .int)) (t' := (.array .int)) (by decide) (by decide)))
  have Z14 : n0 ≤ h14.size := Own.size_wr W14 Z12
  have K14 : Keep h0 h14 [o0] := K12.wr W14 (Or.inl (List.mem_of_getElem? (i := 0) rfl))
  have Fo0_size_14 := Fo0_size_12.same W14
  have q15 : Steps p.tables e below (s₁.setTop (entryFrame m #[(.ref o0), (.int p1)] 3)) (T14.setTop (mkF m 22 #[.val (.ref o0), .val (.int p1), .unset] [])) := q13.trans (st14 _ (Steps.refl _))
  have q16 : Steps p.tables e below (s₁.setTop (entryFrame m #[(.ref o0), (.int p1)] 3)) (T14.setTop (mkF m 26 #[.val (.ref o0), .val (.int p1), .unset] [(.int (p1 + (1 : Int32))), (.ref o0)])) := q15.trans (by
      show Steps p.tables e below (T14.setTop (mkF m 22 #[.val (.ref o0), .val (.int p1), .unset] [])) _
      refine XS.aloadN X14.here hx rfl (hb hby d1_22) rfl rfl ?_
      show Steps p.tables e below (T14.setTop (mkF m 23 #[.val (.ref o0), .val (.int p1), .unset] [(.ref o0)])) _
      refine XS.iloadN X14.here hx rfl (hb hby d1_23) rfl ?_
      show Steps p.tables e below (T14.setTop (mkF m 24 #[.val (.ref o0), .val (.int p1), .unset] [(.int p1), (.ref o0)])) _
      refine XS.iconst X14.here hx rfl (hb hby d1_24) ?_
      show Steps p.tables e below (T14.setTop (mkF m 25 #[.val (.ref o0), .val (.int p1), .unset] [(.int (1 : Int32)), (.int p1), (.ref o0)])) _
      refine XS.iadd X14.here hx rfl (hb hby d1_25) rfl ?_
      show Steps p.tables e below (T14.setTop (mkF m 26 #[.val (.ref o0), .val (.int p1), .unset] [(.int (p1 + (1 : Int32))), (.ref o0)])) _
      exact Steps.refl _)
  obtain ⟨y17, hy17, hM⟩ := Option.bind_eq_some_iff.mp hM
  obtain ⟨T18, h18, k18, X18, e18, E18, A18, AE18, st18⟩ := newPE X14 hx hZ (hw _ (List.mem_of_getElem? (i := 9) rfl)) e14 (g := (mkF m 26 #[.val (.ref o0), .val (.int p1), .unset] [(.int (p1 + (1 : Int32))), (.ref o0)])) rfl (hb hby d1_26) rfl (Own.mk_some hy17).1 (cap := 4) (Own.mk_some hy17).2.1 (by decide) (by decide) (by decide) (ad := "[I") (by decide)
  obtain ⟨aQ, g18⟩ : ∃ z, z = h14.size := ⟨_, rfl⟩
  rw [← g18] at A18 AE18 st18
  have ge_aQ : n0 ≤ aQ := Nat.le_trans Z14 (Nat.le_of_eq g18.symm)
  have ne_aP_aQ : aP ≠ aQ := Nat.ne_of_lt (Nat.lt_of_lt_of_le IaP_14.lt (Nat.le_of_eq g18.symm))
  have ne_aS_aQ : aS ≠ aQ := Nat.ne_of_lt (Nat.lt_of_lt_of_le IaS_14.lt (Nat.le_of_eq g18.symm))
  have ne_o0_aQ : o0 ≠ aQ := Nat.ne_of_lt (Nat.lt_of_lt_of_le Xo0_14.lt (Nat.le_of_eq g18.symm))
  have old_aQ : h0.size ≤ aQ := Nat.le_trans K14.1 (Nat.le_of_eq g18.symm)
  have IaP_18 := IaP_14.ext E18
  have IaS_18 := IaS_14.ext E18
  have Xo0_18 := Xo0_14.ext E18
  have Fo0_parent_18 := Fo0_parent_14.ext E18
  have Fo0_size_18 := Fo0_size_14.ext E18
  have Fo0_parallelism_18 := Fo0_parallelism_14.ext E18
  have Z18 : n0 ≤ h18.size := Nat.le_trans Z14 E18.1
  have K18 : Keep h0 h18 [o0] := K14.ext E18
  have I_aQ : Own.IA Z h18 aQ y17 := (Own.mk_some hy17).2.2 ▸ Own.IA.new A18 rfl
  have q19 : Steps p.tables e below (s₁.setTop (entryFrame m #[(.ref o0), (.int p1)] 3)) (T18.setTop (mkF m 28 #[.val (.ref o0), .val (.int p1), .unset] [(.ref aQ), (.ref o0)])) := q16.trans (st18 _ (Steps.refl _))
  obtain ⟨T20, h20, X20, e20, W20, st20⟩ := putF X18 hx hZ hown (host := "") (Or.inl (hw _ (List.mem_of_getElem? (i := 14) rfl))) Via.refl e18 Fo0_parallelism_18 Xo0_18 (Or.inr ⟨(hw _ (List.mem_of_getElem? (i := 15) rfl)), rfl, hnm⟩) (hw _ (List.mem_of_getElem? (i := 1) rfl)) (ty := (.array .int)) (by decide) rfl rfl (g := (mkF m 28 #[.val (.ref o0), .val (.int p1), .unset] [(.ref aQ), (.ref o0)])) rfl rfl (hb hby d1_28)
  have N20 := Fr.snoc X20 N14 ge_o0
  have IaP_20 := IaP_18.other W20 (Ne.symm ne_o0_aP)
  have IaS_20 := IaS_18.other W20 (Ne.symm ne_o0_aS)
  have IaQ_20 := I_aQ.other W20 (Ne.symm ne_o0_aQ)
  have Xo0_20 := Xo0_18.wr W20
  have Fo0_parent_20 := Fo0_parent_18.other W20 (Or.inr (slot_ne (Or.inr (hw _ (List.mem_of_getElem? (i := 11) rfl))) (Or.inr (hw _ (List.mem_of_getElem? (i := 15) rfl))) (by decide) (t := (.array .int)) (t' := (.array .int)) (by decide) (by decide)))
  have Fo0_size_20 := Fo0_size_18.other W20 (Or.inr (slot_ne (Or.inr (hw _ (List.mem_of_getElem? (i := 13) rfl))) (Or.inr (hw _ (List.mem_of_getElem? (i := 15) rfl))) (by decide) (t := (.array .int)) (t' := (.array .int)) (by decide) (by decide)))
  have Z20 : n0 ≤ h20.size := Own.size_wr W20 Z18
  have K20 : Keep h0 h20 [o0] := K18.wr W20 (Or.inl (List.mem_of_getElem? (i := 0) rfl))
  have Fo0_parallelism_20 := Fo0_parallelism_18.same W20
  have q21 : Steps p.tables e below (s₁.setTop (entryFrame m #[(.ref o0), (.int p1)] 3)) (T20.setTop (mkF m 31 #[.val (.ref o0), .val (.int p1), .unset] [])) := q19.trans (st20 _ (Steps.refl _))
  have q22 : Steps p.tables e below (s₁.setTop (entryFrame m #[(.ref o0), (.int p1)] 3)) (T20.setTop (mkF m 33 #[.val (.ref o0), .val (.int p1), .val (.int (0 : Int32))] [])) := q21.trans (by
      show Steps p.tables e below (T20.setTop (mkF m 31 #[.val (.ref o0), .val (.int p1), .unset] [])) _
      refine XS.iconst X20.here hx rfl (hb hby d1_31) ?_
      show Steps p.tables e below (T20.setTop (mkF m 32 #[.val (.ref o0), .val (.int p1), .unset] [(.int (0 : Int32))])) _
      refine XS.istoreN X20.here hx rfl (hb hby d1_32) rfl (l' := #[.val (.ref o0), .val (.int p1), .val (.int (0 : Int32))]) rfl ?_
      show Steps p.tables e below (T20.setTop (mkF m 33 #[.val (.ref o0), .val (.int p1), .val (.int (0 : Int32))] [])) _
      exact Steps.refl _)
  obtain ⟨r23, hr23, hM⟩ := Option.bind_eq_some_iff.mp hM
  obtain ⟨T24, L24, h24, X24, e24, N24, Zq24, K24, J24_0, J24_1, J24_2, ql24⟩ := lpC hx hZ hw hby hml hown o0 aP aS aQ p1 ge_aP ge_aS ge_aQ ne_aP_aS ne_aP_aQ ne_aS_aQ ne_o0_aP ne_o0_aS ne_o0_aQ 8 (0 : Int32) y5 y11 y17  _ hr23 X20 e20 N20 Z20  Xo0_20 Fo0_parent_20 Fo0_size_20 Fo0_parallelism_20 IaP_20 IaS_20 IaQ_20
  have Xo0_24 := Xo0_20.keep K24
  have Fo0_parent_24 := Fo0_parent_20.keep K24 (ninS ne_o0_aP (ninS ne_o0_aS (ninS ne_o0_aQ nin0)))
  have Fo0_size_24 := Fo0_size_20.keep K24 (ninS ne_o0_aP (ninS ne_o0_aS (ninS ne_o0_aQ nin0)))
  have Fo0_parallelism_24 := Fo0_parallelism_20.keep K24 (ninS ne_o0_aP (ninS ne_o0_aS (ninS ne_o0_aQ nin0)))
  have Z24 : n0 ≤ h24.size := Nat.le_trans Z20 K24.1
  have KK24 : Keep h0 h24 [o0] := K20.trans K24 (allS (Or.inr old_aP) (allS (Or.inr old_aS) (allS (Or.inr old_aQ) all0)))
  have q25 : Steps p.tables e below (s₁.setTop (entryFrame m #[(.ref o0), (.int p1)] 3)) (T24.setTop (mkF m 65 #[.val (.ref o0), .val (.int p1), .val (.int r23.1)] [])) := q22.trans ql24
  obtain rfl := Option.some.inj hM
  obtain ⟨fs, hr, hrun, hended, hW, hsame⟩ := X24.leave (v := none) (fun _ => rfl)
  refine ⟨_, _, q25.trans ?_, hrun, hended, _, _, rfl, ?_, ⟨_, rfl⟩, hW, hsame.mono (by decide) (by decide)⟩
  · exact X24.returnOut hx Bd.returns (hb hby d1_65) hr
  · show Q_rmC Z o0 p1 _ h0 n0 _ T24.heap _
    rw [e24]
    exact ⟨aP, aS, aQ, rfl, N24, KK24, Xo0_24, Fo0_parent_24, Fo0_size_24, Fo0_parallelism_24, J24_0, J24_1, J24_2, old_aP, old_aS, old_aQ, ne_aP_aS, ne_aP_aQ, ne_aS_aQ⟩

theorem pd_2 : parseMethodDescriptor "(II)Z" = some ⟨[.int, .int], some .boolean⟩ := by decide +kernel
def M_sg1 (l6 : Int32) (xP : List Int32) (xS : List Int32) (xQ : List Int32) : Option (List Int32 × List Int32 × List Int32) := (if l6 = (0 : Int32) then some (xP, xS, xQ) else (M_join (2 : Int32) (3 : Int32) xP xS xQ).bind fun r6 => (if r6.1 = (0 : Int32) then none else some (r6.2.1, r6.2.2.1, r6.2.2.2)))
set_option maxRecDepth 65536 in
set_option maxHeartbeats 40000000 in
theorem sg1 {p : Program} {l : Launch} {e : Env} {s : State} {m : MethodId} {args : Array Value} {below : List Frame} {meth : Method} {c : Code} {Z : State} {a0 : Array Value} {n0 : Nat} (hx : p.tables.exec = Jvm.exec) (hZ : Z.Warmed39 s.vm) (hw : ∀ d ∈ tables_1, d.before a0 Z = true) (hby : c.code = code) (hml : c.maxLocals = 23) (hown : s.vm.findClass "com/example/tideplan/tideplan/planner/ForwardGroupsJoinPinLaw" = some m.cls) (fg aP aS aQ : Addr) (l0 l1 l2 l3 l4 l5 l7 l8 : Int32)  (ge_aP : n0 ≤ aP) (ge_aS : n0 ≤ aS) (ge_aQ : n0 ≤ aQ) (ne_aP_aS : aP ≠ aS) (ne_aP_aQ : aP ≠ aQ) (ne_aS_aQ : aS ≠ aQ) (ne_fg_aP : fg ≠ aP) (ne_fg_aS : fg ≠ aS) (ne_fg_aQ : fg ≠ aQ) : ∀ {T0 : State} {locs : List Loc} {h0 : Heap} (l6 : Int32) (xP : List Int32) (xS : List Int32) (xQ : List Int32)  (out : List Int32 × List Int32 × List Int32) (hM : M_sg1 l6 xP xS xQ = some out) (X0 : Stand p l e room_1 s m args below meth c T0 locs 4 15) (e0 : T0.heap = h0) (N0 : Fr n0 locs) (Z0 : n0 ≤ h0.size)  (E_fg : Exa Z h0 fg "com/example/tideplan/tideplan/planner/ForwardGroups") (F_fg_parent : Fld Z h0 fg "com/example/tideplan/tideplan/planner/ForwardGroups" "parent" "[I" (.ref aP)) (F_fg_size : Fld Z h0 fg "com/example/tideplan/tideplan/planner/ForwardGroups" "size" "[I" (.ref aS)) (F_fg_parallelism : Fld Z h0 fg "com/example/tideplan/tideplan/planner/ForwardGroups" "parallelism" "[I" (.ref aQ)) (I_aP : Own.IA Z h0 aP xP) (I_aS : Own.IA Z h0 aS xS) (I_aQ : Own.IA Z h0 aQ xQ),
    ∃ (T' : State) (locs' : List Loc) (h' : Heap) , Stand p l e room_1 s m args below meth c T' locs' 4 15 ∧ T'.heap = h' ∧ Fr n0 locs' ∧ n0 ≤ h'.size ∧ Keep h0 h' [aP, aS, aQ] ∧ Own.IA Z h' aP out.1 ∧ Own.IA Z h' aS out.2.1 ∧ Own.IA Z h' aQ out.2.2 ∧ Steps p.tables e below (T0.setTop (mkF m 64 #[.val (.int l0), .val (.int l1), .val (.int l2), .val (.int l3), .val (.int l4), .val (.int l5), .val (.int l6), .val (.int l7), .val (.int l8), .val (.ref fg), .unset, .unset, .unset, .unset, .unset, .unset, .unset, .unset, .unset, .unset, .unset, .unset, .unset] [])) (T'.setTop (mkF m 81 #[.val (.int l0), .val (.int l1), .val (.int l2), .val (.int l3), .val (.int l4), .val (.int l5), .val (.int l6), .val (.int l7), .val (.int l8), .val (.ref fg), .unset, .unset, .unset, .unset, .unset, .unset, .unset, .unset, .unset, .unset, .unset, .unset, .unset] [])) := by
  intro T0 locs h0 l6 xP xS xQ out hM X0 e0 N0 Z0 E_fg F_fg_parent F_fg_size F_fg_parallelism I_aP I_aS I_aQ
  unfold M_sg1 at hM
  have q0 : Steps p.tables e below (T0.setTop (mkF m 64 #[.val (.int l0), .val (.int l1), .val (.int l2), .val (.int l3), .val (.int l4), .val (.int l5), .val (.int l6), .val (.int l7), .val (.int l8), .val (.ref fg), .unset, .unset, .unset, .unset, .unset, .unset, .unset, .unset, .unset, .unset, .unset, .unset, .unset] [])) (T0.setTop (mkF m 64 #[.val (.int l0), .val (.int l1), .val (.int l2), .val (.int l3), .val (.int l4), .val (.int l5), .val (.int l6), .val (.int l7), .val (.int l8), .val (.ref fg), .unset, .unset, .unset, .unset, .unset, .unset, .unset, .unset, .unset, .unset, .unset, .unset, .unset] [])) := Steps.refl _
  have K0 : Keep h0 h0 [aP, aS, aQ] := Keep.refl _ _
  have q1 : Steps p.tables e below (T0.setTop (mkF m 64 #[.val (.int l0), .val (.int l1), .val (.int l2), .val (.int l3), .val (.int l4), .val (.int l5), .val (.int l6), .val (.int l7), .val (.int l8), .val (.ref fg), .unset, .unset, .unset, .unset, .unset, .unset, .unset, .unset, .unset, .unset, .unset, .unset, .unset] [])) (T0.setTop (mkF m 66 #[.val (.int l0), .val (.int l1), .val (.int l2), .val (.int l3), .val (.int l4), .val (.int l5), .val (.int l6), .val (.int l7), .val (.int l8), .val (.ref fg), .unset, .unset, .unset, .unset, .unset, .unset, .unset, .unset, .unset, .unset, .unset, .unset, .unset] [(.int l6)])) := q0.trans (by
      show Steps p.tables e below (T0.setTop (mkF m 64 #[.val (.int l0), .val (.int l1), .val (.int l2), .val (.int l3), .val (.int l4), .val (.int l5), .val (.int l6), .val (.int l7), .val (.int l8), .val (.ref fg), .unset, .unset, .unset, .unset, .unset, .unset, .unset, .unset, .unset, .unset, .unset, .unset, .unset] [])) _
      refine XS.iload X0.here hx rfl (hb hby at_64) rfl ?_
      show Steps p.tables e below (T0.setTop (mkF m 66 #[.val (.int l0), .val (.int l1), .val (.int l2), .val (.int l3), .val (.int l4), .val (.int l5), .val (.int l6), .val (.int l7), .val (.int l8), .val (.ref fg), .unset, .unset, .unset, .unset, .unset, .unset, .unset, .unset, .unset, .unset, .unset, .unset, .unset] [(.int l6)])) _
      exact Steps.refl _)
  by_cases hc2 : l6 = (0 : Int32)
  · rw [if_pos hc2] at hM
    have q3 : Steps p.tables e below (T0.setTop (mkF m 64 #[.val (.int l0), .val (.int l1), .val (.int l2), .val (.int l3), .val (.int l4), .val (.int l5), .val (.int l6), .val (.int l7), .val (.int l8), .val (.ref fg), .unset, .unset, .unset, .unset, .unset, .unset, .unset, .unset, .unset, .unset, .unset, .unset, .unset] [])) (T0.setTop (mkF m 81 #[.val (.int l0), .val (.int l1), .val (.int l2), .val (.int l3), .val (.int l4), .val (.int l5), .val (.int l6), .val (.int l7), .val (.int l8), .val (.ref fg), .unset, .unset, .unset, .unset, .unset, .unset, .unset, .unset, .unset, .unset, .unset, .unset, .unset] [])) := q1.trans (by
        show Steps p.tables e below (T0.setTop (mkF m 66 #[.val (.int l0), .val (.int l1), .val (.int l2), .val (.int l3), .val (.int l4), .val (.int l5), .val (.int l6), .val (.int l7), .val (.int l8), .val (.ref fg), .unset, .unset, .unset, .unset, .unset, .unset, .unset, .unset, .unset, .unset, .unset, .unset, .unset] [(.int l6)])) _
        refine XS.ifYes X0.here hx rfl (pc0 := 66) (pc' := 81) rfl (hb hby at_66) rfl ((if0 _ _).trans (teq hc2).1) (by decide) (by decide) ?_
        show Steps p.tables e below (T0.setTop (mkF m 81 #[.val (.int l0), .val (.int l1), .val (.int l2), .val (.int l3), .val (.int l4), .val (.int l5), .val (.int l6), .val (.int l7), .val (.int l8), .val (.ref fg), .unset, .unset, .unset, .unset, .unset, .unset, .unset, .unset, .unset, .unset, .unset, .unset, .unset] [])) _
        exact Steps.refl _)
    obtain rfl := Option.some.inj hM
    exact ⟨_, _, _, X0, e0, N0, Z0, K0, I_aP, I_aS, I_aQ, q3⟩
  · rw [if_neg hc2] at hM
    have q4 : Steps p.tables e below (T0.setTop (mkF m 64 #[.val (.int l0), .val (.int l1), .val (.int l2), .val (.int l3), .val (.int l4), .val (.int l5), .val (.int l6), .val (.int l7), .val (.int l8), .val (.ref fg), .unset, .unset, .unset, .unset, .unset, .unset, .unset, .unset, .unset, .unset, .unset, .unset, .unset] [])) (T0.setTop (mkF m 69 #[.val (.int l0), .val (.int l1), .val (.int l2), .val (.int l3), .val (.int l4), .val (.int l5), .val (.int l6), .val (.int l7), .val (.int l8), .val (.ref fg), .unset, .unset, .unset, .unset, .unset, .unset, .unset, .unset, .unset, .unset, .unset, .unset, .unset] [])) := q1.trans (by
        show Steps p.tables e below (T0.setTop (mkF m 66 #[.val (.int l0), .val (.int l1), .val (.int l2), .val (.int l3), .val (.int l4), .val (.int l5), .val (.int l6), .val (.int l7), .val (.int l8), .val (.ref fg), .unset, .unset, .unset, .unset, .unset, .unset, .unset, .unset, .unset, .unset, .unset, .unset, .unset] [(.int l6)])) _
        refine XS.ifNo X0.here hx rfl (hb hby at_66) rfl ((if0 _ _).trans (feq hc2).1) ?_
        show Steps p.tables e below (T0.setTop (mkF m 69 #[.val (.int l0), .val (.int l1), .val (.int l2), .val (.int l3), .val (.int l4), .val (.int l5), .val (.int l6), .val (.int l7), .val (.int l8), .val (.ref fg), .unset, .unset, .unset, .unset, .unset, .unset, .unset, .unset, .unset, .unset, .unset, .unset, .unset] [])) _
        exact Steps.refl _)
    have q5 : Steps p.tables e below (T0.setTop (mkF m 64 #[.val (.int l0), .val (.int l1), .val (.int l2), .val (.int l3), .val (.int l4), .val (.int l5), .val (.int l6), .val (.int l7), .val (.int l8), .val (.ref fg), .unset, .unset, .unset, .unset, .unset, .unset, .unset, .unset, .unset, .unset, .unset, .unset, .unset] [])) (T0.setTop (mkF m 73 #[.val (.int l0), .val (.int l1), .val (.int l2), .val (.int l3), .val (.int l4), .val (.int l5), .val (.int l6), .val (.int l7), .val (.int l8), .val (.ref fg), .unset, .unset, .unset, .unset, .unset, .unset, .unset, .unset, .unset, .unset, .unset, .unset, .unset] [(.int (3 : Int32)), (.int (2 : Int32)), (.ref fg)])) := q4.trans (by
        show Steps p.tables e below (T0.setTop (mkF m 69 #[.val (.int l0), .val (.int l1), .val (.int l2), .val (.int l3), .val (.int l4), .val (.int l5), .val (.int l6), .val (.int l7), .val (.int l8), .val (.ref fg), .unset, .unset, .unset, .unset, .unset, .unset, .unset, .unset, .unset, .unset, .unset, .unset, .unset] [])) _
        refine XS.aload X0.here hx rfl (hb hby at_69) rfl rfl ?_
        show Steps p.tables e below (T0.setTop (mkF m 71 #[.val (.int l0), .val (.int l1), .val (.int l2), .val (.int l3), .val (.int l4), .val (.int l5), .val (.int l6), .val (.int l7), .val (.int l8), .val (.ref fg), .unset, .unset, .unset, .unset, .unset, .unset, .unset, .unset, .unset, .unset, .unset, .unset, .unset] [(.ref fg)])) _
        refine XS.iconst X0.here hx rfl (hb hby at_71) ?_
        show Steps p.tables e below (T0.setTop (mkF m 72 #[.val (.int l0), .val (.int l1), .val (.int l2), .val (.int l3), .val (.int l4), .val (.int l5), .val (.int l6), .val (.int l7), .val (.int l8), .val (.ref fg), .unset, .unset, .unset, .unset, .unset, .unset, .unset, .unset, .unset, .unset, .unset, .unset, .unset] [(.int (2 : Int32)), (.ref fg)])) _
        refine XS.iconst X0.here hx rfl (hb hby at_72) ?_
        show Steps p.tables e below (T0.setTop (mkF m 73 #[.val (.int l0), .val (.int l1), .val (.int l2), .val (.int l3), .val (.int l4), .val (.int l5), .val (.int l6), .val (.int l7), .val (.int l8), .val (.ref fg), .unset, .unset, .unset, .unset, .unset, .unset, .unset, .unset, .unset, .unset, .unset, .unset, .unset] [(.int (3 : Int32)), (.int (2 : Int32)), (.ref fg)])) _
        exact Steps.refl _)
    obtain ⟨r6, hr6, hM⟩ := Option.bind_eq_some_iff.mp hM
    obtain ⟨cq7, kq7, q7a, q7b, q7c⟩ := isOf hZ e0 E_fg
    obtain ⟨_, _, ⟨T7, L7, k7, n7⟩, -, X7, ⟨Lc7, hQ7, l7, y7, z7⟩, st7⟩ := X0.virtualBack hx (y := (⟨"com/example/tideplan/tideplan/planner/ForwardGroups", "join", "(II)Z"⟩ : MethodName)) (z := (⟨"com/example/tideplan/tideplan/planner/ForwardGroups", "join", "(II)Z"⟩ : MethodName)) hown (mvT hZ (hw _ (List.mem_of_getElem? (i := 20) rfl))) (mvT hZ (hw _ (List.mem_of_getElem? (i := 21) rfl))) (notFace_of_selects (args := #[]) (mvT hZ (hw _ (List.mem_of_getElem? (i := 23) rfl)))) (mvT hZ (hw _ (List.mem_of_getElem? (i := 23) rfl))) (mvT hZ (hw _ (List.mem_of_getElem? (i := 22) rfl))) (by decide) (backOf (W := 0) (rmJ l Z a0 hw [] fg (2 : Int32) (3 : Int32) aP aS aQ xP xS xQ r6 h0 n0 Z0 E_fg F_fg_parent F_fg_size F_fg_parallelism I_aP I_aS I_aQ ge_aP ge_aS ge_aQ ne_aP_aS ne_aP_aQ ne_aS_aQ ne_fg_aP ne_fg_aS ne_fg_aQ hr6) hZ (hw _ (List.mem_of_getElem? (i := 24) rfl)) (hw _ (List.mem_of_getElem? (i := 2) rfl)) (by decide) (by decide)) q7a q7c (g := (mkF m 73 #[.val (.int l0), .val (.int l1), .val (.int l2), .val (.int l3), .val (.int l4), .val (.int l5), .val (.int l6), .val (.int l7), .val (.int l8), .val (.ref fg), .unset, .unset, .unset, .unset, .unset, .unset, .unset, .unset, .unset, .unset, .unset, .unset, .unset] [(.int (3 : Int32)), (.int (2 : Int32)), (.ref fg)])) rfl (by rw [hml]; rfl) (Steps.refl _) (argsL := [(.int (2 : Int32)), (.int (3 : Int32))]) (rest := []) (lenOf pd_2 rfl) rfl (by show 2 * 0 + _ ≤ _; exact Nat.le_of_eq rfl) (hb hby at_73) (fun _ _ => ⟨rfl, e0, (by decide : 4 + 0 ≤ _), (by decide : 15 + 0 ≤ _)⟩)
    dsimp only [Pt.U, Pt.locs, Pt.cells, Pt.slots] at X7 l7 y7 z7 st7 hQ7
    subst l7 y7 z7
    obtain ⟨rfl, N7q, K7, J7_0, J7_1, J7_2⟩ := hQ7
    have N7 := Fr.app N0 N7q
    have Xfg_7 := E_fg.keep K7
    have Ffg_parent_7 := F_fg_parent.keep K7 (ninS ne_fg_aP (ninS ne_fg_aS (ninS ne_fg_aQ nin0)))
    have Ffg_size_7 := F_fg_size.keep K7 (ninS ne_fg_aP (ninS ne_fg_aS (ninS ne_fg_aQ nin0)))
    have Ffg_parallelism_7 := F_fg_parallelism.keep K7 (ninS ne_fg_aP (ninS ne_fg_aS (ninS ne_fg_aQ nin0)))
    have Z7 : n0 ≤ T7.heap.size := Nat.le_trans Z0 K7.1
    have KK7 : Keep h0 T7.heap [aP, aS, aQ] := K0.trans K7 (allS (Or.inl (List.mem_of_getElem? (i := 0) rfl)) (allS (Or.inl (List.mem_of_getElem? (i := 1) rfl)) (allS (Or.inl (List.mem_of_getElem? (i := 2) rfl)) all0)))
    have q8 : Steps p.tables e below (T0.setTop (mkF m 64 #[.val (.int l0), .val (.int l1), .val (.int l2), .val (.int l3), .val (.int l4), .val (.int l5), .val (.int l6), .val (.int l7), .val (.int l8), .val (.ref fg), .unset, .unset, .unset, .unset, .unset, .unset, .unset, .unset, .unset, .unset, .unset, .unset, .unset] [])) (T7.setTop (mkF m 76 #[.val (.int l0), .val (.int l1), .val (.int l2), .val (.int l3), .val (.int l4), .val (.int l5), .val (.int l6), .val (.int l7), .val (.int l8), .val (.ref fg), .unset, .unset, .unset, .unset, .unset, .unset, .unset, .unset, .unset, .unset, .unset, .unset, .unset] [(.int r6.1)])) := q5.trans (st7)
    by_cases hc9 : r6.1 = (0 : Int32)
    · rw [if_pos hc9] at hM
      have q10 : Steps p.tables e below (T0.setTop (mkF m 64 #[.val (.int l0), .val (.int l1), .val (.int l2), .val (.int l3), .val (.int l4), .val (.int l5), .val (.int l6), .val (.int l7), .val (.int l8), .val (.ref fg), .unset, .unset, .unset, .unset, .unset, .unset, .unset, .unset, .unset, .unset, .unset, .unset, .unset] [])) (T7.setTop (mkF m 79 #[.val (.int l0), .val (.int l1), .val (.int l2), .val (.int l3), .val (.int l4), .val (.int l5), .val (.int l6), .val (.int l7), .val (.int l8), .val (.ref fg), .unset, .unset, .unset, .unset, .unset, .unset, .unset, .unset, .unset, .unset, .unset, .unset, .unset] [])) := q8.trans (by
          show Steps p.tables e below (T7.setTop (mkF m 76 #[.val (.int l0), .val (.int l1), .val (.int l2), .val (.int l3), .val (.int l4), .val (.int l5), .val (.int l6), .val (.int l7), .val (.int l8), .val (.ref fg), .unset, .unset, .unset, .unset, .unset, .unset, .unset, .unset, .unset, .unset, .unset, .unset, .unset] [(.int r6.1)])) _
          refine XS.ifNo X7.here hx rfl (hb hby at_76) rfl ((if0 _ _).trans (teq hc9).2) ?_
          show Steps p.tables e below (T7.setTop (mkF m 79 #[.val (.int l0), .val (.int l1), .val (.int l2), .val (.int l3), .val (.int l4), .val (.int l5), .val (.int l6), .val (.int l7), .val (.int l8), .val (.ref fg), .unset, .unset, .unset, .unset, .unset, .unset, .unset, .unset, .unset, .unset, .unset, .unset, .unset] [])) _
          exact Steps.refl _)
      cases hM
    · rw [if_neg hc9] at hM
      have q11 : Steps p.tables e below (T0.setTop (mkF m 64 #[.val (.int l0), .val (.int l1), .val (.int l2), .val (.int l3), .val (.int l4), .val (.int l5), .val (.int l6), .val (.int l7), .val (.int l8), .val (.ref fg), .unset, .unset, .unset, .unset, .unset, .unset, .unset, .unset, .unset, .unset, .unset, .unset, .unset] [])) (T7.setTop (mkF m 81 #[.val (.int l0), .val (.int l1), .val (.int l2), .val (.int l3), .val (.int l4), .val (.int l5), .val (.int l6), .val (.int l7), .val (.int l8), .val (.ref fg), .unset, .unset, .unset, .unset, .unset, .unset, .unset, .unset, .unset, .unset, .unset, .unset, .unset] [])) := q8.trans (by
          show Steps p.tables e below (T7.setTop (mkF m 76 #[.val (.int l0), .val (.int l1), .val (.int l2), .val (.int l3), .val (.int l4), .val (.int l5), .val (.int l6), .val (.int l7), .val (.int l8), .val (.ref fg), .unset, .unset, .unset, .unset, .unset, .unset, .unset, .unset, .unset, .unset, .unset, .unset, .unset] [(.int r6.1)])) _
          refine XS.ifYes X7.here hx rfl (pc0 := 76) (pc' := 81) rfl (hb hby at_76) rfl ((if0 _ _).trans (feq hc9).2) (by decide) (by decide) ?_
          show Steps p.tables e below (T7.setTop (mkF m 81 #[.val (.int l0), .val (.int l1), .val (.int l2), .val (.int l3), .val (.int l4), .val (.int l5), .val (.int l6), .val (.int l7), .val (.int l8), .val (.ref fg), .unset, .unset, .unset, .unset, .unset, .unset, .unset, .unset, .unset, .unset, .unset, .unset, .unset] [])) _
          exact Steps.refl _)
      obtain rfl := Option.some.inj hM
      exact ⟨_, _, _, X7, rfl, N7, Z7, KK7, J7_0, J7_1, J7_2, q11⟩

theorem pd_3 : parseMethodDescriptor "(II)V" = some ⟨[.int, .int], none⟩ := by decide +kernel
def M_sg2 (l7 : Int32) (l4 : Int32) (l1 : Int32) (xP : List Int32) (xS : List Int32) (xQ : List Int32) : Option (List Int32 × List Int32) := (if l7 = (0 : Int32) then some (xP, xQ) else (M_set l4 l1 xP xS xQ).bind fun r7 => some (r7.1, r7.2))
set_option maxRecDepth 65536 in
set_option maxHeartbeats 40000000 in
theorem sg2 {p : Program} {l : Launch} {e : Env} {s : State} {m : MethodId} {args : Array Value} {below : List Frame} {meth : Method} {c : Code} {Z : State} {a0 : Array Value} {n0 : Nat} (hx : p.tables.exec = Jvm.exec) (hZ : Z.Warmed39 s.vm) (hw : ∀ d ∈ tables_1, d.before a0 Z = true) (hby : c.code = code) (hml : c.maxLocals = 23) (hown : s.vm.findClass "com/example/tideplan/tideplan/planner/ForwardGroupsJoinPinLaw" = some m.cls) (fg aP aS aQ : Addr) (l0 l2 l3 l5 l6 l8 l10 l11 l12 l13 : Int32)  (ge_aP : n0 ≤ aP) (ge_aS : n0 ≤ aS) (ge_aQ : n0 ≤ aQ) (ne_aP_aS : aP ≠ aS) (ne_aP_aQ : aP ≠ aQ) (ne_aS_aQ : aS ≠ aQ) (ne_fg_aP : fg ≠ aP) (ne_fg_aS : fg ≠ aS) (ne_fg_aQ : fg ≠ aQ) : ∀ {T0 : State} {locs : List Loc} {h0 : Heap} (l7 : Int32) (l4 : Int32) (l1 : Int32) (xP : List Int32) (xS : List Int32) (xQ : List Int32)  (out : List Int32 × List Int32) (hM : M_sg2 l7 l4 l1 xP xS xQ = some out) (X0 : Stand p l e room_1 s m args below meth c T0 locs 4 15) (e0 : T0.heap = h0) (N0 : Fr n0 locs) (Z0 : n0 ≤ h0.size)  (E_fg : Exa Z h0 fg "com/example/tideplan/tideplan/planner/ForwardGroups") (F_fg_parent : Fld Z h0 fg "com/example/tideplan/tideplan/planner/ForwardGroups" "parent" "[I" (.ref aP)) (F_fg_size : Fld Z h0 fg "com/example/tideplan/tideplan/planner/ForwardGroups" "size" "[I" (.ref aS)) (F_fg_parallelism : Fld Z h0 fg "com/example/tideplan/tideplan/planner/ForwardGroups" "parallelism" "[I" (.ref aQ)) (I_aP : Own.IA Z h0 aP xP) (I_aS : Own.IA Z h0 aS xS) (I_aQ : Own.IA Z h0 aQ xQ),
    ∃ (T' : State) (locs' : List Loc) (h' : Heap) , Stand p l e room_1 s m args below meth c T' locs' 4 15 ∧ T'.heap = h' ∧ Fr n0 locs' ∧ n0 ≤ h'.size ∧ Keep h0 h' [aP, aQ] ∧ Own.IA Z h' aP out.1 ∧ Own.IA Z h' aQ out.2 ∧ Steps p.tables e below (T0.setTop (mkF m 135 #[.val (.int l0), .val (.int l1), .val (.int l2), .val (.int l3), .val (.int l4), .val (.int l5), .val (.int l6), .val (.int l7), .val (.int l8), .val (.ref fg), .val (.int l10), .val (.int l11), .val (.int l12), .val (.int l13), .unset, .unset, .unset, .unset, .unset, .unset, .unset, .unset, .unset] [])) (T'.setTop (mkF m 148 #[.val (.int l0), .val (.int l1), .val (.int l2), .val (.int l3), .val (.int l4), .val (.int l5), .val (.int l6), .val (.int l7), .val (.int l8), .val (.ref fg), .val (.int l10), .val (.int l11), .val (.int l12), .val (.int l13), .unset, .unset, .unset, .unset, .unset, .unset, .unset, .unset, .unset] [])) := by
  intro T0 locs h0 l7 l4 l1 xP xS xQ out hM X0 e0 N0 Z0 E_fg F_fg_parent F_fg_size F_fg_parallelism I_aP I_aS I_aQ
  unfold M_sg2 at hM
  have q0 : Steps p.tables e below (T0.setTop (mkF m 135 #[.val (.int l0), .val (.int l1), .val (.int l2), .val (.int l3), .val (.int l4), .val (.int l5), .val (.int l6), .val (.int l7), .val (.int l8), .val (.ref fg), .val (.int l10), .val (.int l11), .val (.int l12), .val (.int l13), .unset, .unset, .unset, .unset, .unset, .unset, .unset, .unset, .unset] [])) (T0.setTop (mkF m 135 #[.val (.int l0), .val (.int l1), .val (.int l2), .val (.int l3), .val (.int l4), .val (.int l5), .val (.int l6), .val (.int l7), .val (.int l8), .val (.ref fg), .val (.int l10), .val (.int l11), .val (.int l12), .val (.int l13), .unset, .unset, .unset, .unset, .unset, .unset, .unset, .unset, .unset] [])) := Steps.refl _
  have K0 : Keep h0 h0 [aP, aQ] := Keep.refl _ _
  have q1 : Steps p.tables e below (T0.setTop (mkF m 135 #[.val (.int l0), .val (.int l1), .val (.int l2), .val (.int l3), .val (.int l4), .val (.int l5), .val (.int l6), .val (.int l7), .val (.int l8), .val (.ref fg), .val (.int l10), .val (.int l11), .val (.int l12), .val (.int l13), .unset, .unset, .unset, .unset, .unset, .unset, .unset, .unset, .unset] [])) (T0.setTop (mkF m 137 #[.val (.int l0), .val (.int l1), .val (.int l2), .val (.int l3), .val (.int l4), .val (.int l5), .val (.int l6), .val (.int l7), .val (.int l8), .val (.ref fg), .val (.int l10), .val (.int l11), .val (.int l12), .val (.int l13), .unset, .unset, .unset, .unset, .unset, .unset, .unset, .unset, .unset] [(.int l7)])) := q0.trans (by
      show Steps p.tables e below (T0.setTop (mkF m 135 #[.val (.int l0), .val (.int l1), .val (.int l2), .val (.int l3), .val (.int l4), .val (.int l5), .val (.int l6), .val (.int l7), .val (.int l8), .val (.ref fg), .val (.int l10), .val (.int l11), .val (.int l12), .val (.int l13), .unset, .unset, .unset, .unset, .unset, .unset, .unset, .unset, .unset] [])) _
      refine XS.iload X0.here hx rfl (hb hby at_135) rfl ?_
      show Steps p.tables e below (T0.setTop (mkF m 137 #[.val (.int l0), .val (.int l1), .val (.int l2), .val (.int l3), .val (.int l4), .val (.int l5), .val (.int l6), .val (.int l7), .val (.int l8), .val (.ref fg), .val (.int l10), .val (.int l11), .val (.int l12), .val (.int l13), .unset, .unset, .unset, .unset, .unset, .unset, .unset, .unset, .unset] [(.int l7)])) _
      exact Steps.refl _)
  by_cases hc3 : l7 = (0 : Int32)
  · rw [if_pos hc3] at hM
    have q4 : Steps p.tables e below (T0.setTop (mkF m 135 #[.val (.int l0), .val (.int l1), .val (.int l2), .val (.int l3), .val (.int l4), .val (.int l5), .val (.int l6), .val (.int l7), .val (.int l8), .val (.ref fg), .val (.int l10), .val (.int l11), .val (.int l12), .val (.int l13), .unset, .unset, .unset, .unset, .unset, .unset, .unset, .unset, .unset] [])) (T0.setTop (mkF m 148 #[.val (.int l0), .val (.int l1), .val (.int l2), .val (.int l3), .val (.int l4), .val (.int l5), .val (.int l6), .val (.int l7), .val (.int l8), .val (.ref fg), .val (.int l10), .val (.int l11), .val (.int l12), .val (.int l13), .unset, .unset, .unset, .unset, .unset, .unset, .unset, .unset, .unset] [])) := q1.trans (by
        show Steps p.tables e below (T0.setTop (mkF m 137 #[.val (.int l0), .val (.int l1), .val (.int l2), .val (.int l3), .val (.int l4), .val (.int l5), .val (.int l6), .val (.int l7), .val (.int l8), .val (.ref fg), .val (.int l10), .val (.int l11), .val (.int l12), .val (.int l13), .unset, .unset, .unset, .unset, .unset, .unset, .unset, .unset, .unset] [(.int l7)])) _
        refine XS.ifYes X0.here hx rfl (pc0 := 137) (pc' := 148) rfl (hb hby at_137) rfl ((if0 _ _).trans (teq hc3).1) (by decide) (by decide) ?_
        show Steps p.tables e below (T0.setTop (mkF m 148 #[.val (.int l0), .val (.int l1), .val (.int l2), .val (.int l3), .val (.int l4), .val (.int l5), .val (.int l6), .val (.int l7), .val (.int l8), .val (.ref fg), .val (.int l10), .val (.int l11), .val (.int l12), .val (.int l13), .unset, .unset, .unset, .unset, .unset, .unset, .unset, .unset, .unset] [])) _
        exact Steps.refl _)
    obtain rfl := Option.some.inj hM
    exact ⟨_, _, _, X0, e0, N0, Z0, K0, I_aP, I_aQ, q4⟩
  · rw [if_neg hc3] at hM
    have q5 : Steps p.tables e below (T0.setTop (mkF m 135 #[.val (.int l0), .val (.int l1), .val (.int l2), .val (.int l3), .val (.int l4), .val (.int l5), .val (.int l6), .val (.int l7), .val (.int l8), .val (.ref fg), .val (.int l10), .val (.int l11), .val (.int l12), .val (.int l13), .unset, .unset, .unset, .unset, .unset, .unset, .unset, .unset, .unset] [])) (T0.setTop (mkF m 140 #[.val (.int l0), .val (.int l1), .val (.int l2), .val (.int l3), .val (.int l4), .val (.int l5), .val (.int l6), .val (.int l7), .val (.int l8), .val (.ref fg), .val (.int l10), .val (.int l11), .val (.int l12), .val (.int l13), .unset, .unset, .unset, .unset, .unset, .unset, .unset, .unset, .unset] [])) := q1.trans (by
        show Steps p.tables e below (T0.setTop (mkF m 137 #[.val (.int l0), .val (.int l1), .val (.int l2), .val (.int l3), .val (.int l4), .val (.int l5), .val (.int l6), .val (.int l7), .val (.int l8), .val (.ref fg), .val (.int l10), .val (.int l11), .val (.int l12), .val (.int l13), .unset, .unset, .unset, .unset, .unset, .unset, .unset, .unset, .unset] [(.int l7)])) _
        refine XS.ifNo X0.here hx rfl (hb hby at_137) rfl ((if0 _ _).trans (feq hc3).1) ?_
        show Steps p.tables e below (T0.setTop (mkF m 140 #[.val (.int l0), .val (.int l1), .val (.int l2), .val (.int l3), .val (.int l4), .val (.int l5), .val (.int l6), .val (.int l7), .val (.int l8), .val (.ref fg), .val (.int l10), .val (.int l11), .val (.int l12), .val (.int l13), .unset, .unset, .unset, .unset, .unset, .unset, .unset, .unset, .unset] [])) _
        exact Steps.refl _)
    have q6 : Steps p.tables e below (T0.setTop (mkF m 135 #[.val (.int l0), .val (.int l1), .val (.int l2), .val (.int l3), .val (.int l4), .val (.int l5), .val (.int l6), .val (.int l7), .val (.int l8), .val (.ref fg), .val (.int l10), .val (.int l11), .val (.int l12), .val (.int l13), .unset, .unset, .unset, .unset, .unset, .unset, .unset, .unset, .unset] [])) (T0.setTop (mkF m 145 #[.val (.int l0), .val (.int l1), .val (.int l2), .val (.int l3), .val (.int l4), .val (.int l5), .val (.int l6), .val (.int l7), .val (.int l8), .val (.ref fg), .val (.int l10), .val (.int l11), .val (.int l12), .val (.int l13), .unset, .unset, .unset, .unset, .unset, .unset, .unset, .unset, .unset] [(.int l1), (.int l4), (.ref fg)])) := q5.trans (by
        show Steps p.tables e below (T0.setTop (mkF m 140 #[.val (.int l0), .val (.int l1), .val (.int l2), .val (.int l3), .val (.int l4), .val (.int l5), .val (.int l6), .val (.int l7), .val (.int l8), .val (.ref fg), .val (.int l10), .val (.int l11), .val (.int l12), .val (.int l13), .unset, .unset, .unset, .unset, .unset, .unset, .unset, .unset, .unset] [])) _
        refine XS.aload X0.here hx rfl (hb hby at_140) rfl rfl ?_
        show Steps p.tables e below (T0.setTop (mkF m 142 #[.val (.int l0), .val (.int l1), .val (.int l2), .val (.int l3), .val (.int l4), .val (.int l5), .val (.int l6), .val (.int l7), .val (.int l8), .val (.ref fg), .val (.int l10), .val (.int l11), .val (.int l12), .val (.int l13), .unset, .unset, .unset, .unset, .unset, .unset, .unset, .unset, .unset] [(.ref fg)])) _
        refine XS.iload X0.here hx rfl (hb hby at_142) rfl ?_
        show Steps p.tables e below (T0.setTop (mkF m 144 #[.val (.int l0), .val (.int l1), .val (.int l2), .val (.int l3), .val (.int l4), .val (.int l5), .val (.int l6), .val (.int l7), .val (.int l8), .val (.ref fg), .val (.int l10), .val (.int l11), .val (.int l12), .val (.int l13), .unset, .unset, .unset, .unset, .unset, .unset, .unset, .unset, .unset] [(.int l4), (.ref fg)])) _
        refine XS.iloadN X0.here hx rfl (hb hby at_144) rfl ?_
        show Steps p.tables e below (T0.setTop (mkF m 145 #[.val (.int l0), .val (.int l1), .val (.int l2), .val (.int l3), .val (.int l4), .val (.int l5), .val (.int l6), .val (.int l7), .val (.int l8), .val (.ref fg), .val (.int l10), .val (.int l11), .val (.int l12), .val (.int l13), .unset, .unset, .unset, .unset, .unset, .unset, .unset, .unset, .unset] [(.int l1), (.int l4), (.ref fg)])) _
        exact Steps.refl _)
    obtain ⟨r7, hr7, hM⟩ := Option.bind_eq_some_iff.mp hM
    obtain ⟨cq8, kq8, q8a, q8b, q8c⟩ := isOf hZ e0 E_fg
    obtain ⟨_, _, ⟨T8, L8, k8, n8⟩, -, X8, ⟨Lc8, hQ8, l8, y8, z8⟩, st8⟩ := X0.virtualBack hx (y := (⟨"com/example/tideplan/tideplan/planner/ForwardGroups", "setParallelism", "(II)V"⟩ : MethodName)) (z := (⟨"com/example/tideplan/tideplan/planner/ForwardGroups", "setParallelism", "(II)V"⟩ : MethodName)) hown (mvT hZ (hw _ (List.mem_of_getElem? (i := 34) rfl))) (mvT hZ (hw _ (List.mem_of_getElem? (i := 35) rfl))) (notFace_of_selects (args := #[]) (mvT hZ (hw _ (List.mem_of_getElem? (i := 37) rfl)))) (mvT hZ (hw _ (List.mem_of_getElem? (i := 37) rfl))) (mvT hZ (hw _ (List.mem_of_getElem? (i := 36) rfl))) (by decide) (backOf (W := 0) (rmS l Z a0 hw [] fg l4 l1 aP aS aQ xP xS xQ r7 h0 n0 Z0 E_fg F_fg_parent F_fg_size F_fg_parallelism I_aP I_aS I_aQ ge_aP ge_aS ge_aQ ne_aP_aS ne_aP_aQ ne_aS_aQ ne_fg_aP ne_fg_aS ne_fg_aQ hr7) hZ (hw _ (List.mem_of_getElem? (i := 38) rfl)) (hw _ (List.mem_of_getElem? (i := 2) rfl)) (by decide) (by decide)) q8a q8c (g := (mkF m 145 #[.val (.int l0), .val (.int l1), .val (.int l2), .val (.int l3), .val (.int l4), .val (.int l5), .val (.int l6), .val (.int l7), .val (.int l8), .val (.ref fg), .val (.int l10), .val (.int l11), .val (.int l12), .val (.int l13), .unset, .unset, .unset, .unset, .unset, .unset, .unset, .unset, .unset] [(.int l1), (.int l4), (.ref fg)])) rfl (by rw [hml]; rfl) (Steps.refl _) (argsL := [(.int l4), (.int l1)]) (rest := []) (lenOf pd_3 rfl) rfl (by show 2 * 0 + _ ≤ _; exact Nat.le_of_eq rfl) (hb hby at_145) (fun _ _ => ⟨rfl, e0, (by decide : 4 + 0 ≤ _), (by decide : 15 + 0 ≤ _)⟩)
    dsimp only [Pt.U, Pt.locs, Pt.cells, Pt.slots] at X8 l8 y8 z8 st8 hQ8
    subst l8 y8 z8
    obtain ⟨rfl, N8q, K8, J8_0, J8_1⟩ := hQ8
    have N8 := Fr.app N0 N8q
    have IaS_8 := I_aS.keep K8 (ninS (Ne.symm ne_aP_aS) (ninS ne_aS_aQ nin0))
    have Xfg_8 := E_fg.keep K8
    have Ffg_parent_8 := F_fg_parent.keep K8 (ninS ne_fg_aP (ninS ne_fg_aQ nin0))
    have Ffg_size_8 := F_fg_size.keep K8 (ninS ne_fg_aP (ninS ne_fg_aQ nin0))
    have Ffg_parallelism_8 := F_fg_parallelism.keep K8 (ninS ne_fg_aP (ninS ne_fg_aQ nin0))
    have Z8 : n0 ≤ T8.heap.size := Nat.le_trans Z0 K8.1
    have KK8 : Keep h0 T8.heap [aP, aQ] := K0.trans K8 (allS (Or.inl (List.mem_of_getElem? (i := 0) rfl)) (allS (Or.inl (List.mem_of_getElem? (i := 1) rfl)) all0))
    have q9 : Steps p.tables e below (T0.setTop (mkF m 135 #[.val (.int l0), .val (.int l1), .val (.int l2), .val (.int l3), .val (.int l4), .val (.int l5), .val (.int l6), .val (.int l7), .val (.int l8), .val (.ref fg), .val (.int l10), .val (.int l11), .val (.int l12), .val (.int l13), .unset, .unset, .unset, .unset, .unset, .unset, .unset, .unset, .unset] [])) (T8.setTop (mkF m 148 #[.val (.int l0), .val (.int l1), .val (.int l2), .val (.int l3), .val (.int l4), .val (.int l5), .val (.int l6), .val (.int l7), .val (.int l8), .val (.ref fg), .val (.int l10), .val (.int l11), .val (.int l12), .val (.int l13), .unset, .unset, .unset, .unset, .unset, .unset, .unset, .unset, .unset] [])) := q6.trans (st8)
    obtain rfl := Option.some.inj hM
    exact ⟨_, _, _, X8, rfl, N8, Z8, KK8, J8_0, J8_1, q9⟩

def M_sg3 (l13 : Int32) (l5 : Int32) (l2 : Int32) (xP : List Int32) (xS : List Int32) (xQ : List Int32) : Option (List Int32 × List Int32) := (if l13 = (0 : Int32) then some (xP, xQ) else (M_set l5 l2 xP xS xQ).bind fun r7 => some (r7.1, r7.2))
set_option maxRecDepth 65536 in
set_option maxHeartbeats 40000000 in
theorem sg3 {p : Program} {l : Launch} {e : Env} {s : State} {m : MethodId} {args : Array Value} {below : List Frame} {meth : Method} {c : Code} {Z : State} {a0 : Array Value} {n0 : Nat} (hx : p.tables.exec = Jvm.exec) (hZ : Z.Warmed39 s.vm) (hw : ∀ d ∈ tables_1, d.before a0 Z = true) (hby : c.code = code) (hml : c.maxLocals = 23) (hown : s.vm.findClass "com/example/tideplan/tideplan/planner/ForwardGroupsJoinPinLaw" = some m.cls) (fg aP aS aQ : Addr) (l0 l1 l3 l4 l6 l7 l8 l10 l11 l12 : Int32)  (ge_aP : n0 ≤ aP) (ge_aS : n0 ≤ aS) (ge_aQ : n0 ≤ aQ) (ne_aP_aS : aP ≠ aS) (ne_aP_aQ : aP ≠ aQ) (ne_aS_aQ : aS ≠ aQ) (ne_fg_aP : fg ≠ aP) (ne_fg_aS : fg ≠ aS) (ne_fg_aQ : fg ≠ aQ) : ∀ {T0 : State} {locs : List Loc} {h0 : Heap} (l13 : Int32) (l5 : Int32) (l2 : Int32) (xP : List Int32) (xS : List Int32) (xQ : List Int32)  (out : List Int32 × List Int32) (hM : M_sg3 l13 l5 l2 xP xS xQ = some out) (X0 : Stand p l e room_1 s m args below meth c T0 locs 4 15) (e0 : T0.heap = h0) (N0 : Fr n0 locs) (Z0 : n0 ≤ h0.size)  (E_fg : Exa Z h0 fg "com/example/tideplan/tideplan/planner/ForwardGroups") (F_fg_parent : Fld Z h0 fg "com/example/tideplan/tideplan/planner/ForwardGroups" "parent" "[I" (.ref aP)) (F_fg_size : Fld Z h0 fg "com/example/tideplan/tideplan/planner/ForwardGroups" "size" "[I" (.ref aS)) (F_fg_parallelism : Fld Z h0 fg "com/example/tideplan/tideplan/planner/ForwardGroups" "parallelism" "[I" (.ref aQ)) (I_aP : Own.IA Z h0 aP xP) (I_aS : Own.IA Z h0 aS xS) (I_aQ : Own.IA Z h0 aQ xQ),
    ∃ (T' : State) (locs' : List Loc) (h' : Heap) , Stand p l e room_1 s m args below meth c T' locs' 4 15 ∧ T'.heap = h' ∧ Fr n0 locs' ∧ n0 ≤ h'.size ∧ Keep h0 h' [aP, aQ] ∧ Own.IA Z h' aP out.1 ∧ Own.IA Z h' aQ out.2 ∧ Steps p.tables e below (T0.setTop (mkF m 148 #[.val (.int l0), .val (.int l1), .val (.int l2), .val (.int l3), .val (.int l4), .val (.int l5), .val (.int l6), .val (.int l7), .val (.int l8), .val (.ref fg), .val (.int l10), .val (.int l11), .val (.int l12), .val (.int l13), .unset, .unset, .unset, .unset, .unset, .unset, .unset, .unset, .unset] [])) (T'.setTop (mkF m 161 #[.val (.int l0), .val (.int l1), .val (.int l2), .val (.int l3), .val (.int l4), .val (.int l5), .val (.int l6), .val (.int l7), .val (.int l8), .val (.ref fg), .val (.int l10), .val (.int l11), .val (.int l12), .val (.int l13), .unset, .unset, .unset, .unset, .unset, .unset, .unset, .unset, .unset] [])) := by
  intro T0 locs h0 l13 l5 l2 xP xS xQ out hM X0 e0 N0 Z0 E_fg F_fg_parent F_fg_size F_fg_parallelism I_aP I_aS I_aQ
  unfold M_sg3 at hM
  have q0 : Steps p.tables e below (T0.setTop (mkF m 148 #[.val (.int l0), .val (.int l1), .val (.int l2), .val (.int l3), .val (.int l4), .val (.int l5), .val (.int l6), .val (.int l7), .val (.int l8), .val (.ref fg), .val (.int l10), .val (.int l11), .val (.int l12), .val (.int l13), .unset, .unset, .unset, .unset, .unset, .unset, .unset, .unset, .unset] [])) (T0.setTop (mkF m 148 #[.val (.int l0), .val (.int l1), .val (.int l2), .val (.int l3), .val (.int l4), .val (.int l5), .val (.int l6), .val (.int l7), .val (.int l8), .val (.ref fg), .val (.int l10), .val (.int l11), .val (.int l12), .val (.int l13), .unset, .unset, .unset, .unset, .unset, .unset, .unset, .unset, .unset] [])) := Steps.refl _
  have K0 : Keep h0 h0 [aP, aQ] := Keep.refl _ _
  have q1 : Steps p.tables e below (T0.setTop (mkF m 148 #[.val (.int l0), .val (.int l1), .val (.int l2), .val (.int l3), .val (.int l4), .val (.int l5), .val (.int l6), .val (.int l7), .val (.int l8), .val (.ref fg), .val (.int l10), .val (.int l11), .val (.int l12), .val (.int l13), .unset, .unset, .unset, .unset, .unset, .unset, .unset, .unset, .unset] [])) (T0.setTop (mkF m 150 #[.val (.int l0), .val (.int l1), .val (.int l2), .val (.int l3), .val (.int l4), .val (.int l5), .val (.int l6), .val (.int l7), .val (.int l8), .val (.ref fg), .val (.int l10), .val (.int l11), .val (.int l12), .val (.int l13), .unset, .unset, .unset, .unset, .unset, .unset, .unset, .unset, .unset] [(.int l13)])) := q0.trans (by
      show Steps p.tables e below (T0.setTop (mkF m 148 #[.val (.int l0), .val (.int l1), .val (.int l2), .val (.int l3), .val (.int l4), .val (.int l5), .val (.int l6), .val (.int l7), .val (.int l8), .val (.ref fg), .val (.int l10), .val (.int l11), .val (.int l12), .val (.int l13), .unset, .unset, .unset, .unset, .unset, .unset, .unset, .unset, .unset] [])) _
      refine XS.iload X0.here hx rfl (hb hby at_148) rfl ?_
      show Steps p.tables e below (T0.setTop (mkF m 150 #[.val (.int l0), .val (.int l1), .val (.int l2), .val (.int l3), .val (.int l4), .val (.int l5), .val (.int l6), .val (.int l7), .val (.int l8), .val (.ref fg), .val (.int l10), .val (.int l11), .val (.int l12), .val (.int l13), .unset, .unset, .unset, .unset, .unset, .unset, .unset, .unset, .unset] [(.int l13)])) _
      exact Steps.refl _)
  by_cases hc3 : l13 = (0 : Int32)
  · rw [if_pos hc3] at hM
    have q4 : Steps p.tables e below (T0.setTop (mkF m 148 #[.val (.int l0), .val (.int l1), .val (.int l2), .val (.int l3), .val (.int l4), .val (.int l5), .val (.int l6), .val (.int l7), .val (.int l8), .val (.ref fg), .val (.int l10), .val (.int l11), .val (.int l12), .val (.int l13), .unset, .unset, .unset, .unset, .unset, .unset, .unset, .unset, .unset] [])) (T0.setTop (mkF m 161 #[.val (.int l0), .val (.int l1), .val (.int l2), .val (.int l3), .val (.int l4), .val (.int l5), .val (.int l6), .val (.int l7), .val (.int l8), .val (.ref fg), .val (.int l10), .val (.int l11), .val (.int l12), .val (.int l13), .unset, .unset, .unset, .unset, .unset, .unset, .unset, .unset, .unset] [])) := q1.trans (by
        show Steps p.tables e below (T0.setTop (mkF m 150 #[.val (.int l0), .val (.int l1), .val (.int l2), .val (.int l3), .val (.int l4), .val (.int l5), .val (.int l6), .val (.int l7), .val (.int l8), .val (.ref fg), .val (.int l10), .val (.int l11), .val (.int l12), .val (.int l13), .unset, .unset, .unset, .unset, .unset, .unset, .unset, .unset, .unset] [(.int l13)])) _
        refine XS.ifYes X0.here hx rfl (pc0 := 150) (pc' := 161) rfl (hb hby at_150) rfl ((if0 _ _).trans (teq hc3).1) (by decide) (by decide) ?_
        show Steps p.tables e below (T0.setTop (mkF m 161 #[.val (.int l0), .val (.int l1), .val (.int l2), .val (.int l3), .val (.int l4), .val (.int l5), .val (.int l6), .val (.int l7), .val (.int l8), .val (.ref fg), .val (.int l10), .val (.int l11), .val (.int l12), .val (.int l13), .unset, .unset, .unset, .unset, .unset, .unset, .unset, .unset, .unset] [])) _
        exact Steps.refl _)
    obtain rfl := Option.some.inj hM
    exact ⟨_, _, _, X0, e0, N0, Z0, K0, I_aP, I_aQ, q4⟩
  · rw [if_neg hc3] at hM
    have q5 : Steps p.tables e below (T0.setTop (mkF m 148 #[.val (.int l0), .val (.int l1), .val (.int l2), .val (.int l3), .val (.int l4), .val (.int l5), .val (.int l6), .val (.int l7), .val (.int l8), .val (.ref fg), .val (.int l10), .val (.int l11), .val (.int l12), .val (.int l13), .unset, .unset, .unset, .unset, .unset, .unset, .unset, .unset, .unset] [])) (T0.setTop (mkF m 153 #[.val (.int l0), .val (.int l1), .val (.int l2), .val (.int l3), .val (.int l4), .val (.int l5), .val (.int l6), .val (.int l7), .val (.int l8), .val (.ref fg), .val (.int l10), .val (.int l11), .val (.int l12), .val (.int l13), .unset, .unset, .unset, .unset, .unset, .unset, .unset, .unset, .unset] [])) := q1.trans (by
        show Steps p.tables e below (T0.setTop (mkF m 150 #[.val (.int l0), .val (.int l1), .val (.int l2), .val (.int l3), .val (.int l4), .val (.int l5), .val (.int l6), .val (.int l7), .val (.int l8), .val (.ref fg), .val (.int l10), .val (.int l11), .val (.int l12), .val (.int l13), .unset, .unset, .unset, .unset, .unset, .unset, .unset, .unset, .unset] [(.int l13)])) _
        refine XS.ifNo X0.here hx rfl (hb hby at_150) rfl ((if0 _ _).trans (feq hc3).1) ?_
        show Steps p.tables e below (T0.setTop (mkF m 153 #[.val (.int l0), .val (.int l1), .val (.int l2), .val (.int l3), .val (.int l4), .val (.int l5), .val (.int l6), .val (.int l7), .val (.int l8), .val (.ref fg), .val (.int l10), .val (.int l11), .val (.int l12), .val (.int l13), .unset, .unset, .unset, .unset, .unset, .unset, .unset, .unset, .unset] [])) _
        exact Steps.refl _)
    have q6 : Steps p.tables e below (T0.setTop (mkF m 148 #[.val (.int l0), .val (.int l1), .val (.int l2), .val (.int l3), .val (.int l4), .val (.int l5), .val (.int l6), .val (.int l7), .val (.int l8), .val (.ref fg), .val (.int l10), .val (.int l11), .val (.int l12), .val (.int l13), .unset, .unset, .unset, .unset, .unset, .unset, .unset, .unset, .unset] [])) (T0.setTop (mkF m 158 #[.val (.int l0), .val (.int l1), .val (.int l2), .val (.int l3), .val (.int l4), .val (.int l5), .val (.int l6), .val (.int l7), .val (.int l8), .val (.ref fg), .val (.int l10), .val (.int l11), .val (.int l12), .val (.int l13), .unset, .unset, .unset, .unset, .unset, .unset, .unset, .unset, .unset] [(.int l2), (.int l5), (.ref fg)])) := q5.trans (by
        show Steps p.tables e below (T0.setTop (mkF m 153 #[.val (.int l0), .val (.int l1), .val (.int l2), .val (.int l3), .val (.int l4), .val (.int l5), .val (.int l6), .val (.int l7), .val (.int l8), .val (.ref fg), .val (.int l10), .val (.int l11), .val (.int l12), .val (.int l13), .unset, .unset, .unset, .unset, .unset, .unset, .unset, .unset, .unset] [])) _
        refine XS.aload X0.here hx rfl (hb hby at_153) rfl rfl ?_
        show Steps p.tables e below (T0.setTop (mkF m 155 #[.val (.int l0), .val (.int l1), .val (.int l2), .val (.int l3), .val (.int l4), .val (.int l5), .val (.int l6), .val (.int l7), .val (.int l8), .val (.ref fg), .val (.int l10), .val (.int l11), .val (.int l12), .val (.int l13), .unset, .unset, .unset, .unset, .unset, .unset, .unset, .unset, .unset] [(.ref fg)])) _
        refine XS.iload X0.here hx rfl (hb hby at_155) rfl ?_
        show Steps p.tables e below (T0.setTop (mkF m 157 #[.val (.int l0), .val (.int l1), .val (.int l2), .val (.int l3), .val (.int l4), .val (.int l5), .val (.int l6), .val (.int l7), .val (.int l8), .val (.ref fg), .val (.int l10), .val (.int l11), .val (.int l12), .val (.int l13), .unset, .unset, .unset, .unset, .unset, .unset, .unset, .unset, .unset] [(.int l5), (.ref fg)])) _
        refine XS.iloadN X0.here hx rfl (hb hby at_157) rfl ?_
        show Steps p.tables e below (T0.setTop (mkF m 158 #[.val (.int l0), .val (.int l1), .val (.int l2), .val (.int l3), .val (.int l4), .val (.int l5), .val (.int l6), .val (.int l7), .val (.int l8), .val (.ref fg), .val (.int l10), .val (.int l11), .val (.int l12), .val (.int l13), .unset, .unset, .unset, .unset, .unset, .unset, .unset, .unset, .unset] [(.int l2), (.int l5), (.ref fg)])) _
        exact Steps.refl _)
    obtain ⟨r7, hr7, hM⟩ := Option.bind_eq_some_iff.mp hM
    obtain ⟨cq8, kq8, q8a, q8b, q8c⟩ := isOf hZ e0 E_fg
    obtain ⟨_, _, ⟨T8, L8, k8, n8⟩, -, X8, ⟨Lc8, hQ8, l8, y8, z8⟩, st8⟩ := X0.virtualBack hx (y := (⟨"com/example/tideplan/tideplan/planner/ForwardGroups", "setParallelism", "(II)V"⟩ : MethodName)) (z := (⟨"com/example/tideplan/tideplan/planner/ForwardGroups", "setParallelism", "(II)V"⟩ : MethodName)) hown (mvT hZ (hw _ (List.mem_of_getElem? (i := 34) rfl))) (mvT hZ (hw _ (List.mem_of_getElem? (i := 35) rfl))) (notFace_of_selects (args := #[]) (mvT hZ (hw _ (List.mem_of_getElem? (i := 37) rfl)))) (mvT hZ (hw _ (List.mem_of_getElem? (i := 37) rfl))) (mvT hZ (hw _ (List.mem_of_getElem? (i := 36) rfl))) (by decide) (backOf (W := 0) (rmS l Z a0 hw [] fg l5 l2 aP aS aQ xP xS xQ r7 h0 n0 Z0 E_fg F_fg_parent F_fg_size F_fg_parallelism I_aP I_aS I_aQ ge_aP ge_aS ge_aQ ne_aP_aS ne_aP_aQ ne_aS_aQ ne_fg_aP ne_fg_aS ne_fg_aQ hr7) hZ (hw _ (List.mem_of_getElem? (i := 38) rfl)) (hw _ (List.mem_of_getElem? (i := 2) rfl)) (by decide) (by decide)) q8a q8c (g := (mkF m 158 #[.val (.int l0), .val (.int l1), .val (.int l2), .val (.int l3), .val (.int l4), .val (.int l5), .val (.int l6), .val (.int l7), .val (.int l8), .val (.ref fg), .val (.int l10), .val (.int l11), .val (.int l12), .val (.int l13), .unset, .unset, .unset, .unset, .unset, .unset, .unset, .unset, .unset] [(.int l2), (.int l5), (.ref fg)])) rfl (by rw [hml]; rfl) (Steps.refl _) (argsL := [(.int l5), (.int l2)]) (rest := []) (lenOf pd_3 rfl) rfl (by show 2 * 0 + _ ≤ _; exact Nat.le_of_eq rfl) (hb hby at_158) (fun _ _ => ⟨rfl, e0, (by decide : 4 + 0 ≤ _), (by decide : 15 + 0 ≤ _)⟩)
    dsimp only [Pt.U, Pt.locs, Pt.cells, Pt.slots] at X8 l8 y8 z8 st8 hQ8
    subst l8 y8 z8
    obtain ⟨rfl, N8q, K8, J8_0, J8_1⟩ := hQ8
    have N8 := Fr.app N0 N8q
    have IaS_8 := I_aS.keep K8 (ninS (Ne.symm ne_aP_aS) (ninS ne_aS_aQ nin0))
    have Xfg_8 := E_fg.keep K8
    have Ffg_parent_8 := F_fg_parent.keep K8 (ninS ne_fg_aP (ninS ne_fg_aQ nin0))
    have Ffg_size_8 := F_fg_size.keep K8 (ninS ne_fg_aP (ninS ne_fg_aQ nin0))
    have Ffg_parallelism_8 := F_fg_parallelism.keep K8 (ninS ne_fg_aP (ninS ne_fg_aQ nin0))
    have Z8 : n0 ≤ T8.heap.size := Nat.le_trans Z0 K8.1
    have KK8 : Keep h0 T8.heap [aP, aQ] := K0.trans K8 (allS (Or.inl (List.mem_of_getElem? (i := 0) rfl)) (allS (Or.inl (List.mem_of_getElem? (i := 1) rfl)) all0))
    have q9 : Steps p.tables e below (T0.setTop (mkF m 148 #[.val (.int l0), .val (.int l1), .val (.int l2), .val (.int l3), .val (.int l4), .val (.int l5), .val (.int l6), .val (.int l7), .val (.int l8), .val (.ref fg), .val (.int l10), .val (.int l11), .val (.int l12), .val (.int l13), .unset, .unset, .unset, .unset, .unset, .unset, .unset, .unset, .unset] [])) (T8.setTop (mkF m 161 #[.val (.int l0), .val (.int l1), .val (.int l2), .val (.int l3), .val (.int l4), .val (.int l5), .val (.int l6), .val (.int l7), .val (.int l8), .val (.ref fg), .val (.int l10), .val (.int l11), .val (.int l12), .val (.int l13), .unset, .unset, .unset, .unset, .unset, .unset, .unset, .unset, .unset] [])) := q6.trans (st8)
    obtain rfl := Option.some.inj hM
    exact ⟨_, _, _, X8, rfl, N8, Z8, KK8, J8_0, J8_1, q9⟩

def M_sg4 (l21 : Int32) (l4 : Int32) (l3 : Int32) (xP : List Int32) (xS : List Int32) (xQ : List Int32) : Option (List Int32 × List Int32) := (if l21 = (0 : Int32) then some (xP, xQ) else (M_set l4 l3 xP xS xQ).bind fun r7 => some (r7.1, r7.2))
set_option maxRecDepth 65536 in
set_option maxHeartbeats 40000000 in
theorem sg4 {p : Program} {l : Launch} {e : Env} {s : State} {m : MethodId} {args : Array Value} {below : List Frame} {meth : Method} {c : Code} {Z : State} {a0 : Array Value} {n0 : Nat} (hx : p.tables.exec = Jvm.exec) (hZ : Z.Warmed39 s.vm) (hw : ∀ d ∈ tables_1, d.before a0 Z = true) (hby : c.code = code) (hml : c.maxLocals = 23) (hown : s.vm.findClass "com/example/tideplan/tideplan/planner/ForwardGroupsJoinPinLaw" = some m.cls) (fg aP aS aQ : Addr) (l0 l1 l2 l5 l6 l7 l8 l10 l11 l12 l13 l14 l15 l16 l17 l18 l19 l20 : Int32)  (ge_aP : n0 ≤ aP) (ge_aS : n0 ≤ aS) (ge_aQ : n0 ≤ aQ) (ne_aP_aS : aP ≠ aS) (ne_aP_aQ : aP ≠ aQ) (ne_aS_aQ : aS ≠ aQ) (ne_fg_aP : fg ≠ aP) (ne_fg_aS : fg ≠ aS) (ne_fg_aQ : fg ≠ aQ) : ∀ {T0 : State} {locs : List Loc} {h0 : Heap} (l21 : Int32) (l4 : Int32) (l3 : Int32) (xP : List Int32) (xS : List Int32) (xQ : List Int32)  (out : List Int32 × List Int32) (hM : M_sg4 l21 l4 l3 xP xS xQ = some out) (X0 : Stand p l e room_1 s m args below meth c T0 locs 4 15) (e0 : T0.heap = h0) (N0 : Fr n0 locs) (Z0 : n0 ≤ h0.size)  (E_fg : Exa Z h0 fg "com/example/tideplan/tideplan/planner/ForwardGroups") (F_fg_parent : Fld Z h0 fg "com/example/tideplan/tideplan/planner/ForwardGroups" "parent" "[I" (.ref aP)) (F_fg_size : Fld Z h0 fg "com/example/tideplan/tideplan/planner/ForwardGroups" "size" "[I" (.ref aS)) (F_fg_parallelism : Fld Z h0 fg "com/example/tideplan/tideplan/planner/ForwardGroups" "parallelism" "[I" (.ref aQ)) (I_aP : Own.IA Z h0 aP xP) (I_aS : Own.IA Z h0 aS xS) (I_aQ : Own.IA Z h0 aQ xQ),
    ∃ (T' : State) (locs' : List Loc) (h' : Heap) , Stand p l e room_1 s m args below meth c T' locs' 4 15 ∧ T'.heap = h' ∧ Fr n0 locs' ∧ n0 ≤ h'.size ∧ Keep h0 h' [aP, aQ] ∧ Own.IA Z h' aP out.1 ∧ Own.IA Z h' aQ out.2 ∧ Steps p.tables e below (T0.setTop (mkF m 315 #[.val (.int l0), .val (.int l1), .val (.int l2), .val (.int l3), .val (.int l4), .val (.int l5), .val (.int l6), .val (.int l7), .val (.int l8), .val (.ref fg), .val (.int l10), .val (.int l11), .val (.int l12), .val (.int l13), .val (.int l14), .val (.int l15), .val (.int l16), .val (.int l17), .val (.int l18), .val (.int l19), .val (.int l20), .val (.int l21), .unset] [])) (T'.setTop (mkF m 328 #[.val (.int l0), .val (.int l1), .val (.int l2), .val (.int l3), .val (.int l4), .val (.int l5), .val (.int l6), .val (.int l7), .val (.int l8), .val (.ref fg), .val (.int l10), .val (.int l11), .val (.int l12), .val (.int l13), .val (.int l14), .val (.int l15), .val (.int l16), .val (.int l17), .val (.int l18), .val (.int l19), .val (.int l20), .val (.int l21), .unset] [])) := by
  intro T0 locs h0 l21 l4 l3 xP xS xQ out hM X0 e0 N0 Z0 E_fg F_fg_parent F_fg_size F_fg_parallelism I_aP I_aS I_aQ
  unfold M_sg4 at hM
  have q0 : Steps p.tables e below (T0.setTop (mkF m 315 #[.val (.int l0), .val (.int l1), .val (.int l2), .val (.int l3), .val (.int l4), .val (.int l5), .val (.int l6), .val (.int l7), .val (.int l8), .val (.ref fg), .val (.int l10), .val (.int l11), .val (.int l12), .val (.int l13), .val (.int l14), .val (.int l15), .val (.int l16), .val (.int l17), .val (.int l18), .val (.int l19), .val (.int l20), .val (.int l21), .unset] [])) (T0.setTop (mkF m 315 #[.val (.int l0), .val (.int l1), .val (.int l2), .val (.int l3), .val (.int l4), .val (.int l5), .val (.int l6), .val (.int l7), .val (.int l8), .val (.ref fg), .val (.int l10), .val (.int l11), .val (.int l12), .val (.int l13), .val (.int l14), .val (.int l15), .val (.int l16), .val (.int l17), .val (.int l18), .val (.int l19), .val (.int l20), .val (.int l21), .unset] [])) := Steps.refl _
  have K0 : Keep h0 h0 [aP, aQ] := Keep.refl _ _
  have q1 : Steps p.tables e below (T0.setTop (mkF m 315 #[.val (.int l0), .val (.int l1), .val (.int l2), .val (.int l3), .val (.int l4), .val (.int l5), .val (.int l6), .val (.int l7), .val (.int l8), .val (.ref fg), .val (.int l10), .val (.int l11), .val (.int l12), .val (.int l13), .val (.int l14), .val (.int l15), .val (.int l16), .val (.int l17), .val (.int l18), .val (.int l19), .val (.int l20), .val (.int l21), .unset] [])) (T0.setTop (mkF m 317 #[.val (.int l0), .val (.int l1), .val (.int l2), .val (.int l3), .val (.int l4), .val (.int l5), .val (.int l6), .val (.int l7), .val (.int l8), .val (.ref fg), .val (.int l10), .val (.int l11), .val (.int l12), .val (.int l13), .val (.int l14), .val (.int l15), .val (.int l16), .val (.int l17), .val (.int l18), .val (.int l19), .val (.int l20), .val (.int l21), .unset] [(.int l21)])) := q0.trans (by
      show Steps p.tables e below (T0.setTop (mkF m 315 #[.val (.int l0), .val (.int l1), .val (.int l2), .val (.int l3), .val (.int l4), .val (.int l5), .val (.int l6), .val (.int l7), .val (.int l8), .val (.ref fg), .val (.int l10), .val (.int l11), .val (.int l12), .val (.int l13), .val (.int l14), .val (.int l15), .val (.int l16), .val (.int l17), .val (.int l18), .val (.int l19), .val (.int l20), .val (.int l21), .unset] [])) _
      refine XS.iload X0.here hx rfl (hb hby at_315) rfl ?_
      show Steps p.tables e below (T0.setTop (mkF m 317 #[.val (.int l0), .val (.int l1), .val (.int l2), .val (.int l3), .val (.int l4), .val (.int l5), .val (.int l6), .val (.int l7), .val (.int l8), .val (.ref fg), .val (.int l10), .val (.int l11), .val (.int l12), .val (.int l13), .val (.int l14), .val (.int l15), .val (.int l16), .val (.int l17), .val (.int l18), .val (.int l19), .val (.int l20), .val (.int l21), .unset] [(.int l21)])) _
      exact Steps.refl _)
  by_cases hc3 : l21 = (0 : Int32)
  · rw [if_pos hc3] at hM
    have q4 : Steps p.tables e below (T0.setTop (mkF m 315 #[.val (.int l0), .val (.int l1), .val (.int l2), .val (.int l3), .val (.int l4), .val (.int l5), .val (.int l6), .val (.int l7), .val (.int l8), .val (.ref fg), .val (.int l10), .val (.int l11), .val (.int l12), .val (.int l13), .val (.int l14), .val (.int l15), .val (.int l16), .val (.int l17), .val (.int l18), .val (.int l19), .val (.int l20), .val (.int l21), .unset] [])) (T0.setTop (mkF m 328 #[.val (.int l0), .val (.int l1), .val (.int l2), .val (.int l3), .val (.int l4), .val (.int l5), .val (.int l6), .val (.int l7), .val (.int l8), .val (.ref fg), .val (.int l10), .val (.int l11), .val (.int l12), .val (.int l13), .val (.int l14), .val (.int l15), .val (.int l16), .val (.int l17), .val (.int l18), .val (.int l19), .val (.int l20), .val (.int l21), .unset] [])) := q1.trans (by
        show Steps p.tables e below (T0.setTop (mkF m 317 #[.val (.int l0), .val (.int l1), .val (.int l2), .val (.int l3), .val (.int l4), .val (.int l5), .val (.int l6), .val (.int l7), .val (.int l8), .val (.ref fg), .val (.int l10), .val (.int l11), .val (.int l12), .val (.int l13), .val (.int l14), .val (.int l15), .val (.int l16), .val (.int l17), .val (.int l18), .val (.int l19), .val (.int l20), .val (.int l21), .unset] [(.int l21)])) _
        refine XS.ifYes X0.here hx rfl (pc0 := 317) (pc' := 328) rfl (hb hby at_317) rfl ((if0 _ _).trans (teq hc3).1) (by decide) (by decide) ?_
        show Steps p.tables e below (T0.setTop (mkF m 328 #[.val (.int l0), .val (.int l1), .val (.int l2), .val (.int l3), .val (.int l4), .val (.int l5), .val (.int l6), .val (.int l7), .val (.int l8), .val (.ref fg), .val (.int l10), .val (.int l11), .val (.int l12), .val (.int l13), .val (.int l14), .val (.int l15), .val (.int l16), .val (.int l17), .val (.int l18), .val (.int l19), .val (.int l20), .val (.int l21), .unset] [])) _
        exact Steps.refl _)
    obtain rfl := Option.some.inj hM
    exact ⟨_, _, _, X0, e0, N0, Z0, K0, I_aP, I_aQ, q4⟩
  · rw [if_neg hc3] at hM
    have q5 : Steps p.tables e below (T0.setTop (mkF m 315 #[.val (.int l0), .val (.int l1), .val (.int l2), .val (.int l3), .val (.int l4), .val (.int l5), .val (.int l6), .val (.int l7), .val (.int l8), .val (.ref fg), .val (.int l10), .val (.int l11), .val (.int l12), .val (.int l13), .val (.int l14), .val (.int l15), .val (.int l16), .val (.int l17), .val (.int l18), .val (.int l19), .val (.int l20), .val (.int l21), .unset] [])) (T0.setTop (mkF m 320 #[.val (.int l0), .val (.int l1), .val (.int l2), .val (.int l3), .val (.int l4), .val (.int l5), .val (.int l6), .val (.int l7), .val (.int l8), .val (.ref fg), .val (.int l10), .val (.int l11), .val (.int l12), .val (.int l13), .val (.int l14), .val (.int l15), .val (.int l16), .val (.int l17), .val (.int l18), .val (.int l19), .val (.int l20), .val (.int l21), .unset] [])) := q1.trans (by
        show Steps p.tables e below (T0.setTop (mkF m 317 #[.val (.int l0), .val (.int l1), .val (.int l2), .val (.int l3), .val (.int l4), .val (.int l5), .val (.int l6), .val (.int l7), .val (.int l8), .val (.ref fg), .val (.int l10), .val (.int l11), .val (.int l12), .val (.int l13), .val (.int l14), .val (.int l15), .val (.int l16), .val (.int l17), .val (.int l18), .val (.int l19), .val (.int l20), .val (.int l21), .unset] [(.int l21)])) _
        refine XS.ifNo X0.here hx rfl (hb hby at_317) rfl ((if0 _ _).trans (feq hc3).1) ?_
        show Steps p.tables e below (T0.setTop (mkF m 320 #[.val (.int l0), .val (.int l1), .val (.int l2), .val (.int l3), .val (.int l4), .val (.int l5), .val (.int l6), .val (.int l7), .val (.int l8), .val (.ref fg), .val (.int l10), .val (.int l11), .val (.int l12), .val (.int l13), .val (.int l14), .val (.int l15), .val (.int l16), .val (.int l17), .val (.int l18), .val (.int l19), .val (.int l20), .val (.int l21), .unset] [])) _
        exact Steps.refl _)
    have q6 : Steps p.tables e below (T0.setTop (mkF m 315 #[.val (.int l0), .val (.int l1), .val (.int l2), .val (.int l3), .val (.int l4), .val (.int l5), .val (.int l6), .val (.int l7), .val (.int l8), .val (.ref fg), .val (.int l10), .val (.int l11), .val (.int l12), .val (.int l13), .val (.int l14), .val (.int l15), .val (.int l16), .val (.int l17), .val (.int l18), .val (.int l19), .val (.int l20), .val (.int l21), .unset] [])) (T0.setTop (mkF m 325 #[.val (.int l0), .val (.int l1), .val (.int l2), .val (.int l3), .val (.int l4), .val (.int l5), .val (.int l6), .val (.int l7), .val (.int l8), .val (.ref fg), .val (.int l10), .val (.int l11), .val (.int l12), .val (.int l13), .val (.int l14), .val (.int l15), .val (.int l16), .val (.int l17), .val (.int l18), .val (.int l19), .val (.int l20), .val (.int l21), .unset] [(.int l3), (.int l4), (.ref fg)])) := q5.trans (by
        show Steps p.tables e below (T0.setTop (mkF m 320 #[.val (.int l0), .val (.int l1), .val (.int l2), .val (.int l3), .val (.int l4), .val (.int l5), .val (.int l6), .val (.int l7), .val (.int l8), .val (.ref fg), .val (.int l10), .val (.int l11), .val (.int l12), .val (.int l13), .val (.int l14), .val (.int l15), .val (.int l16), .val (.int l17), .val (.int l18), .val (.int l19), .val (.int l20), .val (.int l21), .unset] [])) _
        refine XS.aload X0.here hx rfl (hb hby at_320) rfl rfl ?_
        show Steps p.tables e below (T0.setTop (mkF m 322 #[.val (.int l0), .val (.int l1), .val (.int l2), .val (.int l3), .val (.int l4), .val (.int l5), .val (.int l6), .val (.int l7), .val (.int l8), .val (.ref fg), .val (.int l10), .val (.int l11), .val (.int l12), .val (.int l13), .val (.int l14), .val (.int l15), .val (.int l16), .val (.int l17), .val (.int l18), .val (.int l19), .val (.int l20), .val (.int l21), .unset] [(.ref fg)])) _
        refine XS.iload X0.here hx rfl (hb hby at_322) rfl ?_
        show Steps p.tables e below (T0.setTop (mkF m 324 #[.val (.int l0), .val (.int l1), .val (.int l2), .val (.int l3), .val (.int l4), .val (.int l5), .val (.int l6), .val (.int l7), .val (.int l8), .val (.ref fg), .val (.int l10), .val (.int l11), .val (.int l12), .val (.int l13), .val (.int l14), .val (.int l15), .val (.int l16), .val (.int l17), .val (.int l18), .val (.int l19), .val (.int l20), .val (.int l21), .unset] [(.int l4), (.ref fg)])) _
        refine XS.iloadN X0.here hx rfl (hb hby at_324) rfl ?_
        show Steps p.tables e below (T0.setTop (mkF m 325 #[.val (.int l0), .val (.int l1), .val (.int l2), .val (.int l3), .val (.int l4), .val (.int l5), .val (.int l6), .val (.int l7), .val (.int l8), .val (.ref fg), .val (.int l10), .val (.int l11), .val (.int l12), .val (.int l13), .val (.int l14), .val (.int l15), .val (.int l16), .val (.int l17), .val (.int l18), .val (.int l19), .val (.int l20), .val (.int l21), .unset] [(.int l3), (.int l4), (.ref fg)])) _
        exact Steps.refl _)
    obtain ⟨r7, hr7, hM⟩ := Option.bind_eq_some_iff.mp hM
    obtain ⟨cq8, kq8, q8a, q8b, q8c⟩ := isOf hZ e0 E_fg
    obtain ⟨_, _, ⟨T8, L8, k8, n8⟩, -, X8, ⟨Lc8, hQ8, l8, y8, z8⟩, st8⟩ := X0.virtualBack hx (y := (⟨"com/example/tideplan/tideplan/planner/ForwardGroups", "setParallelism", "(II)V"⟩ : MethodName)) (z := (⟨"com/example/tideplan/tideplan/planner/ForwardGroups", "setParallelism", "(II)V"⟩ : MethodName)) hown (mvT hZ (hw _ (List.mem_of_getElem? (i := 34) rfl))) (mvT hZ (hw _ (List.mem_of_getElem? (i := 35) rfl))) (notFace_of_selects (args := #[]) (mvT hZ (hw _ (List.mem_of_getElem? (i := 37) rfl)))) (mvT hZ (hw _ (List.mem_of_getElem? (i := 37) rfl))) (mvT hZ (hw _ (List.mem_of_getElem? (i := 36) rfl))) (by decide) (backOf (W := 0) (rmS l Z a0 hw [] fg l4 l3 aP aS aQ xP xS xQ r7 h0 n0 Z0 E_fg F_fg_parent F_fg_size F_fg_parallelism I_aP I_aS I_aQ ge_aP ge_aS ge_aQ ne_aP_aS ne_aP_aQ ne_aS_aQ ne_fg_aP ne_fg_aS ne_fg_aQ hr7) hZ (hw _ (List.mem_of_getElem? (i := 38) rfl)) (hw _ (List.mem_of_getElem? (i := 2) rfl)) (by decide) (by decide)) q8a q8c (g := (mkF m 325 #[.val (.int l0), .val (.int l1), .val (.int l2), .val (.int l3), .val (.int l4), .val (.int l5), .val (.int l6), .val (.int l7), .val (.int l8), .val (.ref fg), .val (.int l10), .val (.int l11), .val (.int l12), .val (.int l13), .val (.int l14), .val (.int l15), .val (.int l16), .val (.int l17), .val (.int l18), .val (.int l19), .val (.int l20), .val (.int l21), .unset] [(.int l3), (.int l4), (.ref fg)])) rfl (by rw [hml]; rfl) (Steps.refl _) (argsL := [(.int l4), (.int l3)]) (rest := []) (lenOf pd_3 rfl) rfl (by show 2 * 0 + _ ≤ _; exact Nat.le_of_eq rfl) (hb hby at_325) (fun _ _ => ⟨rfl, e0, (by decide : 4 + 0 ≤ _), (by decide : 15 + 0 ≤ _)⟩)
    dsimp only [Pt.U, Pt.locs, Pt.cells, Pt.slots] at X8 l8 y8 z8 st8 hQ8
    subst l8 y8 z8
    obtain ⟨rfl, N8q, K8, J8_0, J8_1⟩ := hQ8
    have N8 := Fr.app N0 N8q
    have IaS_8 := I_aS.keep K8 (ninS (Ne.symm ne_aP_aS) (ninS ne_aS_aQ nin0))
    have Xfg_8 := E_fg.keep K8
    have Ffg_parent_8 := F_fg_parent.keep K8 (ninS ne_fg_aP (ninS ne_fg_aQ nin0))
    have Ffg_size_8 := F_fg_size.keep K8 (ninS ne_fg_aP (ninS ne_fg_aQ nin0))
    have Ffg_parallelism_8 := F_fg_parallelism.keep K8 (ninS ne_fg_aP (ninS ne_fg_aQ nin0))
    have Z8 : n0 ≤ T8.heap.size := Nat.le_trans Z0 K8.1
    have KK8 : Keep h0 T8.heap [aP, aQ] := K0.trans K8 (allS (Or.inl (List.mem_of_getElem? (i := 0) rfl)) (allS (Or.inl (List.mem_of_getElem? (i := 1) rfl)) all0))
    have q9 : Steps p.tables e below (T0.setTop (mkF m 315 #[.val (.int l0), .val (.int l1), .val (.int l2), .val (.int l3), .val (.int l4), .val (.int l5), .val (.int l6), .val (.int l7), .val (.int l8), .val (.ref fg), .val (.int l10), .val (.int l11), .val (.int l12), .val (.int l13), .val (.int l14), .val (.int l15), .val (.int l16), .val (.int l17), .val (.int l18), .val (.int l19), .val (.int l20), .val (.int l21), .unset] [])) (T8.setTop (mkF m 328 #[.val (.int l0), .val (.int l1), .val (.int l2), .val (.int l3), .val (.int l4), .val (.int l5), .val (.int l6), .val (.int l7), .val (.int l8), .val (.ref fg), .val (.int l10), .val (.int l11), .val (.int l12), .val (.int l13), .val (.int l14), .val (.int l15), .val (.int l16), .val (.int l17), .val (.int l18), .val (.int l19), .val (.int l20), .val (.int l21), .unset] [])) := q6.trans (st8)
    obtain rfl := Option.some.inj hM
    exact ⟨_, _, _, X8, rfl, N8, Z8, KK8, J8_0, J8_1, q9⟩

theorem pd_4 : parseMethodDescriptor "(I)V" = some ⟨[.int], none⟩ := by decide +kernel
theorem pd_5 : parseMethodDescriptor "(Lcom/example/tideplan/tideplan/planner/ForwardGroups;IZIIZII)Z" = some ⟨[(.object "com/example/tideplan/tideplan/planner/ForwardGroups"), .int, .boolean, .int, .int, .boolean, .int, .int], some .boolean⟩ := by decide +kernel
theorem pn_rm0 : plainName "com/example/tideplan/tideplan/planner/ForwardGroupsJoinPinLaw" = true := by first | (simp [plainName, overriddenIn]; done) | decide +kernel
theorem ef_rm0 (m : MethodId) (p0 : Int32) (p1 : Int32) (p2 : Int32) (p3 : Int32) : entryFrame m #[(.int p0), (.int p1), (.int p2), (.int p3)] maxLocals = mkF m 0 #[.val (.int p0), .val (.int p1), .val (.int p2), .val (.int p3), .unset, .unset, .unset, .unset, .unset, .unset, .unset, .unset, .unset, .unset, .unset, .unset, .unset, .unset, .unset, .unset, .unset, .unset, .unset] [] := by first | (simp [entryFrame, mkF, argsToLocals, Value.category, maxLocals]; done) | rfl
def M_core (va : Int32) (vb : Int32) (v5 : Int32) (v9 : Int32) (v13 : Int32) (p1 : Int32) (p2 : Int32) (p3 : Int32) : Option (Int32) := (M_new (3 : Int32)).bind fun r19 => (M_sg1  v5 r19.1 r19.2.1 r19.2.2).bind fun r23 => (some (Fg v5 va)).bind fun ga => (some (Fg v5 vb)).bind fun gb => (some (if ga = gb then (1 : Int32) else (0 : Int32))).bind fun v36 => (some (if v13 = (0 : Int32) then (0 : Int32) else (if v36 = (0 : Int32) then (1 : Int32) else (if v9 = (0 : Int32) then (1 : Int32) else (0 : Int32))))).bind fun v42 => (M_sg2  v9 va p1 r23.1 r23.2.1 r23.2.2).bind fun r45 => (M_sg3  v42 vb p2 r45.1 r23.2.1 r45.2).bind fun r48 => (some (if v9 = (0 : Int32) then (if v36 = (0 : Int32) then (-1 : Int32) else (if v42 = (0 : Int32) then (-1 : Int32) else p2)) else p1)).bind fun v55 => (some (if v36 = (0 : Int32) then (if v42 = (0 : Int32) then (-1 : Int32) else p2) else v55)).bind fun v60 => (some (if v55 = (-1 : Int32) then (0 : Int32) else (if v60 = (-1 : Int32) then (0 : Int32) else (if v55 = v60 then (0 : Int32) else (1 : Int32))))).bind fun v66 => (M_join va vb r48.1 r23.2.1 r48.2).bind fun r69 => (if r69.1 = v66 then none else (some (if v55 = (-1 : Int32) then v60 else v55)).bind fun v78 => (some (if v66 = (0 : Int32) then v78 else v55)).bind fun v82 => (M_par va r69.2.1 r69.2.2.1 r69.2.2.2).bind fun r85 => (if r85.1 = v82 then (some (if v82 = (-1 : Int32) then (1 : Int32) else (0 : Int32))).bind fun v93 => (M_sg4  v93 va p3 r85.2 r69.2.2.1 r69.2.2.2).bind fun r96 => (some (if v93 = (0 : Int32) then v82 else p3)).bind fun v101 => (M_at (0 : Int32) v5 ga gb v66 v101 v60 r96.1 r69.2.2.1 r96.2).bind fun r104 => (if r104.1 = (0 : Int32) then none else (M_at (1 : Int32) v5 ga gb v66 v101 v60 r104.2 r69.2.2.1 r96.2).bind fun r111 => (if r111.1 = (0 : Int32) then none else (M_at (2 : Int32) v5 ga gb v66 v101 v60 r111.2 r69.2.2.1 r96.2).bind fun r118 => (if r118.1 = (0 : Int32) then none else (M_at (3 : Int32) v5 ga gb v66 v101 v60 r118.2 r69.2.2.1 r96.2).bind fun r125 => (if r125.1 = (0 : Int32) then none else some (1 : Int32))))) else none))
def M_law (p0 : Int32) (p1 : Int32) (p2 : Int32) (p3 : Int32) : Option (Int32) := (some (p0 &&& (3 : Int32))).bind fun va => (some (((p0.toUInt32 >>> ((2 : Int32) &&& 31).toUInt32).toInt32) &&& (3 : Int32))).bind fun vb => (some (if (p0 &&& (16 : Int32)) = (0 : Int32) then (0 : Int32) else (1 : Int32))).bind fun v5 => (some (if (p0 &&& (32 : Int32)) = (0 : Int32) then (0 : Int32) else (1 : Int32))).bind fun v9 => (some (if (p0 &&& (64 : Int32)) = (0 : Int32) then (0 : Int32) else (1 : Int32))).bind fun v13 => M_core va vb v5 v9 v13 p1 p2 p3
def Q_rm0 (Z : State) (p0 : Int32) (p1 : Int32) (p2 : Int32) (p3 : Int32) (out : Int32) (h0 : Heap) (n0 : Nat) (v : Option Value) (h : Heap) (L : List Loc) : Prop := v = some (.int out) ∧ Fr n0 L
set_option maxRecDepth 65536 in
set_option maxHeartbeats 40000000 in
theorem rm0 (l : Launch) (Z : State) (a0 : Array Value) (hw : ∀ d ∈ tables_1, d.before a0 Z = true) (ws : List Jvm.Cond) (p0 : Int32) (p1 : Int32) (p2 : Int32) (p3 : Int32) (out : Int32) (h0 : Heap) (n0 : Nat) (Z0 : n0 ≤ h0.size) (hM : M_law p0 p1 p2 p3 = some out) :
    MetFree l x (head1 (Jvm.Cond.code x code maxLocals ret :: ws) room_1) (fun a U => a = #[(.int p0), (.int p1), (.int p2), (.int p3)] ∧ Z.Warmed39 U.vm ∧ U.heap = h0) (fun _ _ _ _ _ => True) (fun _ U o U' => ∃ v L, o = .returned v ∧ Q_rm0 Z p0 p1 p2 p3 out h0 n0 v U'.heap L ∧ FrameEnd U o U' L room_1.cells room_1.slots) := by
  refine MetFree.of_bodySF (plainFor_of_name pn_rm0) hisR ?_
  intro p e s m args below meth c s₁ Bd hml0 hP hK
  obtain ⟨rfl, hZ, hh⟩ := hP
  have hx := Bd.exec
  have hby := Bd.bytes
  have hml : c.maxLocals = 23 := hml0
  have hown : s.vm.findClass "com/example/tideplan/tideplan/planner/ForwardGroupsJoinPinLaw" = some m.cls := findClass_of_methodNamed Bd.named
  have hnm := (name_of_methodNamed Bd.named Bd.method).1
  have X0 : Stand p l e room_1 s m #[(.int p0), (.int p1), (.int p2), (.int p3)] below meth c s₁ [] 0 0 := Stand.of_body Bd
  have e0 : s₁.heap = h0 := by rw [← hh, Bd.state]; rfl
  have N0 := Fr.nil n0
  have q0 : Steps p.tables e below (s₁.setTop (entryFrame m #[(.int p0), (.int p1), (.int p2), (.int p3)] maxLocals)) (s₁.setTop (mkF m 0 #[.val (.int p0), .val (.int p1), .val (.int p2), .val (.int p3), .unset, .unset, .unset, .unset, .unset, .unset, .unset, .unset, .unset, .unset, .unset, .unset, .unset, .unset, .unset, .unset, .unset, .unset, .unset] [])) := castTop (ef_rm0 m p0 p1 p2 p3) (Steps.refl _)
  unfold M_law at hM
  have q1 : Steps p.tables e below (s₁.setTop (entryFrame m #[(.int p0), (.int p1), (.int p2), (.int p3)] maxLocals)) (s₁.setTop (mkF m 5 #[.val (.int p0), .val (.int p1), .val (.int p2), .val (.int p3), .val (.int (p0 &&& (3 : Int32))), .unset, .unset, .unset, .unset, .unset, .unset, .unset, .unset, .unset, .unset, .unset, .unset, .unset, .unset, .unset, .unset, .unset, .unset] [])) := q0.trans (by
      show Steps p.tables e below (s₁.setTop (mkF m 0 #[.val (.int p0), .val (.int p1), .val (.int p2), .val (.int p3), .unset, .unset, .unset, .unset, .unset, .unset, .unset, .unset, .unset, .unset, .unset, .unset, .unset, .unset, .unset, .unset, .unset, .unset, .unset] [])) _
      refine XS.iloadN X0.here hx rfl (hb hby at_0) rfl ?_
      show Steps p.tables e below (s₁.setTop (mkF m 1 #[.val (.int p0), .val (.int p1), .val (.int p2), .val (.int p3), .unset, .unset, .unset, .unset, .unset, .unset, .unset, .unset, .unset, .unset, .unset, .unset, .unset, .unset, .unset, .unset, .unset, .unset, .unset] [(.int p0)])) _
      refine XS.iconst X0.here hx rfl (hb hby at_1) ?_
      show Steps p.tables e below (s₁.setTop (mkF m 2 #[.val (.int p0), .val (.int p1), .val (.int p2), .val (.int p3), .unset, .unset, .unset, .unset, .unset, .unset, .unset, .unset, .unset, .unset, .unset, .unset, .unset, .unset, .unset, .unset, .unset, .unset, .unset] [(.int (3 : Int32)), (.int p0)])) _
      refine XS.iand X0.here hx rfl (hb hby at_2) rfl ?_
      show Steps p.tables e below (s₁.setTop (mkF m 3 #[.val (.int p0), .val (.int p1), .val (.int p2), .val (.int p3), .unset, .unset, .unset, .unset, .unset, .unset, .unset, .unset, .unset, .unset, .unset, .unset, .unset, .unset, .unset, .unset, .unset, .unset, .unset] [(.int (p0 &&& (3 : Int32)))])) _
      refine XS.istore X0.here hx rfl (hb hby at_3) rfl (l' := #[.val (.int p0), .val (.int p1), .val (.int p2), .val (.int p3), .val (.int (p0 &&& (3 : Int32))), .unset, .unset, .unset, .unset, .unset, .unset, .unset, .unset, .unset, .unset, .unset, .unset, .unset, .unset, .unset, .unset, .unset, .unset]) rfl ?_
      show Steps p.tables e below (s₁.setTop (mkF m 5 #[.val (.int p0), .val (.int p1), .val (.int p2), .val (.int p3), .val (.int (p0 &&& (3 : Int32))), .unset, .unset, .unset, .unset, .unset, .unset, .unset, .unset, .unset, .unset, .unset, .unset, .unset, .unset, .unset, .unset, .unset, .unset] [])) _
      exact Steps.refl _)
  obtain ⟨va, hva, hM⟩ := Option.bind_eq_some_iff.mp hM
  have hva := (Option.some.inj hva).symm
  rw [← hva] at q1
  have q2 : Steps p.tables e below (s₁.setTop (entryFrame m #[(.int p0), (.int p1), (.int p2), (.int p3)] maxLocals)) (s₁.setTop (mkF m 12 #[.val (.int p0), .val (.int p1), .val (.int p2), .val (.int p3), .val (.int va), .val (.int (((p0.toUInt32 >>> ((2 : Int32) &&& 31).toUInt32).toInt32) &&& (3 : Int32))), .unset, .unset, .unset, .unset, .unset, .unset, .unset, .unset, .unset, .unset, .unset, .unset, .unset, .unset, .unset, .unset, .unset] [])) := q1.trans (by
      show Steps p.tables e below (s₁.setTop (mkF m 5 #[.val (.int p0), .val (.int p1), .val (.int p2), .val (.int p3), .val (.int va), .unset, .unset, .unset, .unset, .unset, .unset, .unset, .unset, .unset, .unset, .unset, .unset, .unset, .unset, .unset, .unset, .unset, .unset] [])) _
      refine XS.iloadN X0.here hx rfl (hb hby at_5) rfl ?_
      show Steps p.tables e below (s₁.setTop (mkF m 6 #[.val (.int p0), .val (.int p1), .val (.int p2), .val (.int p3), .val (.int va), .unset, .unset, .unset, .unset, .unset, .unset, .unset, .unset, .unset, .unset, .unset, .unset, .unset, .unset, .unset, .unset, .unset, .unset] [(.int p0)])) _
      refine XS.iconst X0.here hx rfl (hb hby at_6) ?_
      show Steps p.tables e below (s₁.setTop (mkF m 7 #[.val (.int p0), .val (.int p1), .val (.int p2), .val (.int p3), .val (.int va), .unset, .unset, .unset, .unset, .unset, .unset, .unset, .unset, .unset, .unset, .unset, .unset, .unset, .unset, .unset, .unset, .unset, .unset] [(.int (2 : Int32)), (.int p0)])) _
      refine XS.iushr X0.here hx rfl (hb hby at_7) rfl ?_
      show Steps p.tables e below (s₁.setTop (mkF m 8 #[.val (.int p0), .val (.int p1), .val (.int p2), .val (.int p3), .val (.int va), .unset, .unset, .unset, .unset, .unset, .unset, .unset, .unset, .unset, .unset, .unset, .unset, .unset, .unset, .unset, .unset, .unset, .unset] [(.int ((p0.toUInt32 >>> ((2 : Int32) &&& 31).toUInt32).toInt32))])) _
      refine XS.iconst X0.here hx rfl (hb hby at_8) ?_
      show Steps p.tables e below (s₁.setTop (mkF m 9 #[.val (.int p0), .val (.int p1), .val (.int p2), .val (.int p3), .val (.int va), .unset, .unset, .unset, .unset, .unset, .unset, .unset, .unset, .unset, .unset, .unset, .unset, .unset, .unset, .unset, .unset, .unset, .unset] [(.int (3 : Int32)), (.int ((p0.toUInt32 >>> ((2 : Int32) &&& 31).toUInt32).toInt32))])) _
      refine XS.iand X0.here hx rfl (hb hby at_9) rfl ?_
      show Steps p.tables e below (s₁.setTop (mkF m 10 #[.val (.int p0), .val (.int p1), .val (.int p2), .val (.int p3), .val (.int va), .unset, .unset, .unset, .unset, .unset, .unset, .unset, .unset, .unset, .unset, .unset, .unset, .unset, .unset, .unset, .unset, .unset, .unset] [(.int (((p0.toUInt32 >>> ((2 : Int32) &&& 31).toUInt32).toInt32) &&& (3 : Int32)))])) _
      refine XS.istore X0.here hx rfl (hb hby at_10) rfl (l' := #[.val (.int p0), .val (.int p1), .val (.int p2), .val (.int p3), .val (.int va), .val (.int (((p0.toUInt32 >>> ((2 : Int32) &&& 31).toUInt32).toInt32) &&& (3 : Int32))), .unset, .unset, .unset, .unset, .unset, .unset, .unset, .unset, .unset, .unset, .unset, .unset, .unset, .unset, .unset, .unset, .unset]) rfl ?_
      show Steps p.tables e below (s₁.setTop (mkF m 12 #[.val (.int p0), .val (.int p1), .val (.int p2), .val (.int p3), .val (.int va), .val (.int (((p0.toUInt32 >>> ((2 : Int32) &&& 31).toUInt32).toInt32) &&& (3 : Int32))), .unset, .unset, .unset, .unset, .unset, .unset, .unset, .unset, .unset, .unset, .unset, .unset, .unset, .unset, .unset, .unset, .unset] [])) _
      exact Steps.refl _)
  obtain ⟨vb, hvb, hM⟩ := Option.bind_eq_some_iff.mp hM
  have hvb := (Option.some.inj hvb).symm
  rw [← hvb] at q2
  have q3 : Steps p.tables e below (s₁.setTop (entryFrame m #[(.int p0), (.int p1), (.int p2), (.int p3)] maxLocals)) (s₁.setTop (mkF m 16 #[.val (.int p0), .val (.int p1), .val (.int p2), .val (.int p3), .val (.int va), .val (.int vb), .unset, .unset, .unset, .unset, .unset, .unset, .unset, .unset, .unset, .unset, .unset, .unset, .unset, .unset, .unset, .unset, .unset] [(.int (p0 &&& (16 : Int32)))])) := q2.trans (by
      show Steps p.tables e below (s₁.setTop (mkF m 12 #[.val (.int p0), .val (.int p1), .val (.int p2), .val (.int p3), .val (.int va), .val (.int vb), .unset, .unset, .unset, .unset, .unset, .unset, .unset, .unset, .unset, .unset, .unset, .unset, .unset, .unset, .unset, .unset, .unset] [])) _
      refine XS.iloadN X0.here hx rfl (hb hby at_12) rfl ?_
      show Steps p.tables e below (s₁.setTop (mkF m 13 #[.val (.int p0), .val (.int p1), .val (.int p2), .val (.int p3), .val (.int va), .val (.int vb), .unset, .unset, .unset, .unset, .unset, .unset, .unset, .unset, .unset, .unset, .unset, .unset, .unset, .unset, .unset, .unset, .unset] [(.int p0)])) _
      refine XS.bipush X0.here hx rfl (hb hby at_13) ?_
      show Steps p.tables e below (s₁.setTop (mkF m 15 #[.val (.int p0), .val (.int p1), .val (.int p2), .val (.int p3), .val (.int va), .val (.int vb), .unset, .unset, .unset, .unset, .unset, .unset, .unset, .unset, .unset, .unset, .unset, .unset, .unset, .unset, .unset, .unset, .unset] [(.int (16 : Int32)), (.int p0)])) _
      refine XS.iand X0.here hx rfl (hb hby at_15) rfl ?_
      show Steps p.tables e below (s₁.setTop (mkF m 16 #[.val (.int p0), .val (.int p1), .val (.int p2), .val (.int p3), .val (.int va), .val (.int vb), .unset, .unset, .unset, .unset, .unset, .unset, .unset, .unset, .unset, .unset, .unset, .unset, .unset, .unset, .unset, .unset, .unset] [(.int (p0 &&& (16 : Int32)))])) _
      exact Steps.refl _)
  obtain ⟨v5, hv5, hM⟩ := Option.bind_eq_some_iff.mp hM
  have hv5 := (Option.some.inj hv5).symm
  have q6 : Steps p.tables e below (s₁.setTop (entryFrame m #[(.int p0), (.int p1), (.int p2), (.int p3)] maxLocals)) (s₁.setTop (mkF m 24 #[.val (.int p0), .val (.int p1), .val (.int p2), .val (.int p3), .val (.int va), .val (.int vb), .unset, .unset, .unset, .unset, .unset, .unset, .unset, .unset, .unset, .unset, .unset, .unset, .unset, .unset, .unset, .unset, .unset] [(.int v5)])) := by
    refine q3.trans ?_
    show Steps p.tables e below (s₁.setTop (mkF m 16 #[.val (.int p0), .val (.int p1), .val (.int p2), .val (.int p3), .val (.int va), .val (.int vb), .unset, .unset, .unset, .unset, .unset, .unset, .unset, .unset, .unset, .unset, .unset, .unset, .unset, .unset, .unset, .unset, .unset] [(.int (p0 &&& (16 : Int32)))])) _
    by_cases hc4 : (p0 &&& (16 : Int32)) = (0 : Int32)
    · rw [if_pos hc4] at hv5
      refine XS.ifYes X0.here hx rfl (pc0 := 16) (pc' := 23) rfl (hb hby at_16) rfl ((if0 _ _).trans (teq hc4).1) (by decide) (by decide) ?_
      show Steps p.tables e below (s₁.setTop (mkF m 23 #[.val (.int p0), .val (.int p1), .val (.int p2), .val (.int p3), .val (.int va), .val (.int vb), .unset, .unset, .unset, .unset, .unset, .unset, .unset, .unset, .unset, .unset, .unset, .unset, .unset, .unset, .unset, .unset, .unset] [])) _
      refine XS.iconst X0.here hx rfl (hb hby at_23) ?_
      show Steps p.tables e below (s₁.setTop (mkF m 24 #[.val (.int p0), .val (.int p1), .val (.int p2), .val (.int p3), .val (.int va), .val (.int vb), .unset, .unset, .unset, .unset, .unset, .unset, .unset, .unset, .unset, .unset, .unset, .unset, .unset, .unset, .unset, .unset, .unset] [(.int (0 : Int32))])) _
      rw [hv5]
      exact Steps.refl _
    · rw [if_neg hc4] at hv5
      refine XS.ifNo X0.here hx rfl (hb hby at_16) rfl ((if0 _ _).trans (feq hc4).1) ?_
      show Steps p.tables e below (s₁.setTop (mkF m 19 #[.val (.int p0), .val (.int p1), .val (.int p2), .val (.int p3), .val (.int va), .val (.int vb), .unset, .unset, .unset, .unset, .unset, .unset, .unset, .unset, .unset, .unset, .unset, .unset, .unset, .unset, .unset, .unset, .unset] [])) _
      refine XS.iconst X0.here hx rfl (hb hby at_19) ?_
      show Steps p.tables e below (s₁.setTop (mkF m 20 #[.val (.int p0), .val (.int p1), .val (.int p2), .val (.int p3), .val (.int va), .val (.int vb), .unset, .unset, .unset, .unset, .unset, .unset, .unset, .unset, .unset, .unset, .unset, .unset, .unset, .unset, .unset, .unset, .unset] [(.int (1 : Int32))])) _
      refine XS.goto X0.here hx rfl (pc0 := 20) (pc' := 24) rfl (hb hby at_20) (by decide) (by decide) ?_
      show Steps p.tables e below (s₁.setTop (mkF m 24 #[.val (.int p0), .val (.int p1), .val (.int p2), .val (.int p3), .val (.int va), .val (.int vb), .unset, .unset, .unset, .unset, .unset, .unset, .unset, .unset, .unset, .unset, .unset, .unset, .unset, .unset, .unset, .unset, .unset] [(.int (1 : Int32))])) _
      rw [hv5]
      exact Steps.refl _
  have q7 : Steps p.tables e below (s₁.setTop (entryFrame m #[(.int p0), (.int p1), (.int p2), (.int p3)] maxLocals)) (s₁.setTop (mkF m 30 #[.val (.int p0), .val (.int p1), .val (.int p2), .val (.int p3), .val (.int va), .val (.int vb), .val (.int v5), .unset, .unset, .unset, .unset, .unset, .unset, .unset, .unset, .unset, .unset, .unset, .unset, .unset, .unset, .unset, .unset] [(.int (p0 &&& (32 : Int32)))])) := q6.trans (by
      show Steps p.tables e below (s₁.setTop (mkF m 24 #[.val (.int p0), .val (.int p1), .val (.int p2), .val (.int p3), .val (.int va), .val (.int vb), .unset, .unset, .unset, .unset, .unset, .unset, .unset, .unset, .unset, .unset, .unset, .unset, .unset, .unset, .unset, .unset, .unset] [(.int v5)])) _
      refine XS.istore X0.here hx rfl (hb hby at_24) rfl (l' := #[.val (.int p0), .val (.int p1), .val (.int p2), .val (.int p3), .val (.int va), .val (.int vb), .val (.int v5), .unset, .unset, .unset, .unset, .unset, .unset, .unset, .unset, .unset, .unset, .unset, .unset, .unset, .unset, .unset, .unset]) rfl ?_
      show Steps p.tables e below (s₁.setTop (mkF m 26 #[.val (.int p0), .val (.int p1), .val (.int p2), .val (.int p3), .val (.int va), .val (.int vb), .val (.int v5), .unset, .unset, .unset, .unset, .unset, .unset, .unset, .unset, .unset, .unset, .unset, .unset, .unset, .unset, .unset, .unset] [])) _
      refine XS.iloadN X0.here hx rfl (hb hby at_26) rfl ?_
      show Steps p.tables e below (s₁.setTop (mkF m 27 #[.val (.int p0), .val (.int p1), .val (.int p2), .val (.int p3), .val (.int va), .val (.int vb), .val (.int v5), .unset, .unset, .unset, .unset, .unset, .unset, .unset, .unset, .unset, .unset, .unset, .unset, .unset, .unset, .unset, .unset] [(.int p0)])) _
      refine XS.bipush X0.here hx rfl (hb hby at_27) ?_
      show Steps p.tables e below (s₁.setTop (mkF m 29 #[.val (.int p0), .val (.int p1), .val (.int p2), .val (.int p3), .val (.int va), .val (.int vb), .val (.int v5), .unset, .unset, .unset, .unset, .unset, .unset, .unset, .unset, .unset, .unset, .unset, .unset, .unset, .unset, .unset, .unset] [(.int (32 : Int32)), (.int p0)])) _
      refine XS.iand X0.here hx rfl (hb hby at_29) rfl ?_
      show Steps p.tables e below (s₁.setTop (mkF m 30 #[.val (.int p0), .val (.int p1), .val (.int p2), .val (.int p3), .val (.int va), .val (.int vb), .val (.int v5), .unset, .unset, .unset, .unset, .unset, .unset, .unset, .unset, .unset, .unset, .unset, .unset, .unset, .unset, .unset, .unset] [(.int (p0 &&& (32 : Int32)))])) _
      exact Steps.refl _)
  obtain ⟨v9, hv9, hM⟩ := Option.bind_eq_some_iff.mp hM
  have hv9 := (Option.some.inj hv9).symm
  have q10 : Steps p.tables e below (s₁.setTop (entryFrame m #[(.int p0), (.int p1), (.int p2), (.int p3)] maxLocals)) (s₁.setTop (mkF m 38 #[.val (.int p0), .val (.int p1), .val (.int p2), .val (.int p3), .val (.int va), .val (.int vb), .val (.int v5), .unset, .unset, .unset, .unset, .unset, .unset, .unset, .unset, .unset, .unset, .unset, .unset, .unset, .unset, .unset, .unset] [(.int v9)])) := by
    refine q7.trans ?_
    show Steps p.tables e below (s₁.setTop (mkF m 30 #[.val (.int p0), .val (.int p1), .val (.int p2), .val (.int p3), .val (.int va), .val (.int vb), .val (.int v5), .unset, .unset, .unset, .unset, .unset, .unset, .unset, .unset, .unset, .unset, .unset, .unset, .unset, .unset, .unset, .unset] [(.int (p0 &&& (32 : Int32)))])) _
    by_cases hc8 : (p0 &&& (32 : Int32)) = (0 : Int32)
    · rw [if_pos hc8] at hv9
      refine XS.ifYes X0.here hx rfl (pc0 := 30) (pc' := 37) rfl (hb hby at_30) rfl ((if0 _ _).trans (teq hc8).1) (by decide) (by decide) ?_
      show Steps p.tables e below (s₁.setTop (mkF m 37 #[.val (.int p0), .val (.int p1), .val (.int p2), .val (.int p3), .val (.int va), .val (.int vb), .val (.int v5), .unset, .unset, .unset, .unset, .unset, .unset, .unset, .unset, .unset, .unset, .unset, .unset, .unset, .unset, .unset, .unset] [])) _
      refine XS.iconst X0.here hx rfl (hb hby at_37) ?_
      show Steps p.tables e below (s₁.setTop (mkF m 38 #[.val (.int p0), .val (.int p1), .val (.int p2), .val (.int p3), .val (.int va), .val (.int vb), .val (.int v5), .unset, .unset, .unset, .unset, .unset, .unset, .unset, .unset, .unset, .unset, .unset, .unset, .unset, .unset, .unset, .unset] [(.int (0 : Int32))])) _
      rw [hv9]
      exact Steps.refl _
    · rw [if_neg hc8] at hv9
      refine XS.ifNo X0.here hx rfl (hb hby at_30) rfl ((if0 _ _).trans (feq hc8).1) ?_
      show Steps p.tables e below (s₁.setTop (mkF m 33 #[.val (.int p0), .val (.int p1), .val (.int p2), .val (.int p3), .val (.int va), .val (.int vb), .val (.int v5), .unset, .unset, .unset, .unset, .unset, .unset, .unset, .unset, .unset, .unset, .unset, .unset, .unset, .unset, .unset, .unset] [])) _
      refine XS.iconst X0.here hx rfl (hb hby at_33) ?_
      show Steps p.tables e below (s₁.setTop (mkF m 34 #[.val (.int p0), .val (.int p1), .val (.int p2), .val (.int p3), .val (.int va), .val (.int vb), .val (.int v5), .unset, .unset, .unset, .unset, .unset, .unset, .unset, .unset, .unset, .unset, .unset, .unset, .unset, .unset, .unset, .unset] [(.int (1 : Int32))])) _
      refine XS.goto X0.here hx rfl (pc0 := 34) (pc' := 38) rfl (hb hby at_34) (by decide) (by decide) ?_
      show Steps p.tables e below (s₁.setTop (mkF m 38 #[.val (.int p0), .val (.int p1), .val (.int p2), .val (.int p3), .val (.int va), .val (.int vb), .val (.int v5), .unset, .unset, .unset, .unset, .unset, .unset, .unset, .unset, .unset, .unset, .unset, .unset, .unset, .unset, .unset, .unset] [(.int (1 : Int32))])) _
      rw [hv9]
      exact Steps.refl _
  have q11 : Steps p.tables e below (s₁.setTop (entryFrame m #[(.int p0), (.int p1), (.int p2), (.int p3)] maxLocals)) (s₁.setTop (mkF m 44 #[.val (.int p0), .val (.int p1), .val (.int p2), .val (.int p3), .val (.int va), .val (.int vb), .val (.int v5), .val (.int v9), .unset, .unset, .unset, .unset, .unset, .unset, .unset, .unset, .unset, .unset, .unset, .unset, .unset, .unset, .unset] [(.int (p0 &&& (64 : Int32)))])) := q10.trans (by
      show Steps p.tables e below (s₁.setTop (mkF m 38 #[.val (.int p0), .val (.int p1), .val (.int p2), .val (.int p3), .val (.int va), .val (.int vb), .val (.int v5), .unset, .unset, .unset, .unset, .unset, .unset, .unset, .unset, .unset, .unset, .unset, .unset, .unset, .unset, .unset, .unset] [(.int v9)])) _
      refine XS.istore X0.here hx rfl (hb hby at_38) rfl (l' := #[.val (.int p0), .val (.int p1), .val (.int p2), .val (.int p3), .val (.int va), .val (.int vb), .val (.int v5), .val (.int v9), .unset, .unset, .unset, .unset, .unset, .unset, .unset, .unset, .unset, .unset, .unset, .unset, .unset, .unset, .unset]) rfl ?_
      show Steps p.tables e below (s₁.setTop (mkF m 40 #[.val (.int p0), .val (.int p1), .val (.int p2), .val (.int p3), .val (.int va), .val (.int vb), .val (.int v5), .val (.int v9), .unset, .unset, .unset, .unset, .unset, .unset, .unset, .unset, .unset, .unset, .unset, .unset, .unset, .unset, .unset] [])) _
      refine XS.iloadN X0.here hx rfl (hb hby at_40) rfl ?_
      show Steps p.tables e below (s₁.setTop (mkF m 41 #[.val (.int p0), .val (.int p1), .val (.int p2), .val (.int p3), .val (.int va), .val (.int vb), .val (.int v5), .val (.int v9), .unset, .unset, .unset, .unset, .unset, .unset, .unset, .unset, .unset, .unset, .unset, .unset, .unset, .unset, .unset] [(.int p0)])) _
      refine XS.bipush X0.here hx rfl (hb hby at_41) ?_
      show Steps p.tables e below (s₁.setTop (mkF m 43 #[.val (.int p0), .val (.int p1), .val (.int p2), .val (.int p3), .val (.int va), .val (.int vb), .val (.int v5), .val (.int v9), .unset, .unset, .unset, .unset, .unset, .unset, .unset, .unset, .unset, .unset, .unset, .unset, .unset, .unset, .unset] [(.int (64 : Int32)), (.int p0)])) _
      refine XS.iand X0.here hx rfl (hb hby at_43) rfl ?_
      show Steps p.tables e below (s₁.setTop (mkF m 44 #[.val (.int p0), .val (.int p1), .val (.int p2), .val (.int p3), .val (.int va), .val (.int vb), .val (.int v5), .val (.int v9), .unset, .unset, .unset, .unset, .unset, .unset, .unset, .unset, .unset, .unset, .unset, .unset, .unset, .unset, .unset] [(.int (p0 &&& (64 : Int32)))])) _
      exact Steps.refl _)
  obtain ⟨v13, hv13, hM⟩ := Option.bind_eq_some_iff.mp hM
  have hv13 := (Option.some.inj hv13).symm
  have q14 : Steps p.tables e below (s₁.setTop (entryFrame m #[(.int p0), (.int p1), (.int p2), (.int p3)] maxLocals)) (s₁.setTop (mkF m 52 #[.val (.int p0), .val (.int p1), .val (.int p2), .val (.int p3), .val (.int va), .val (.int vb), .val (.int v5), .val (.int v9), .unset, .unset, .unset, .unset, .unset, .unset, .unset, .unset, .unset, .unset, .unset, .unset, .unset, .unset, .unset] [(.int v13)])) := by
    refine q11.trans ?_
    show Steps p.tables e below (s₁.setTop (mkF m 44 #[.val (.int p0), .val (.int p1), .val (.int p2), .val (.int p3), .val (.int va), .val (.int vb), .val (.int v5), .val (.int v9), .unset, .unset, .unset, .unset, .unset, .unset, .unset, .unset, .unset, .unset, .unset, .unset, .unset, .unset, .unset] [(.int (p0 &&& (64 : Int32)))])) _
    by_cases hc12 : (p0 &&& (64 : Int32)) = (0 : Int32)
    · rw [if_pos hc12] at hv13
      refine XS.ifYes X0.here hx rfl (pc0 := 44) (pc' := 51) rfl (hb hby at_44) rfl ((if0 _ _).trans (teq hc12).1) (by decide) (by decide) ?_
      show Steps p.tables e below (s₁.setTop (mkF m 51 #[.val (.int p0), .val (.int p1), .val (.int p2), .val (.int p3), .val (.int va), .val (.int vb), .val (.int v5), .val (.int v9), .unset, .unset, .unset, .unset, .unset, .unset, .unset, .unset, .unset, .unset, .unset, .unset, .unset, .unset, .unset] [])) _
      refine XS.iconst X0.here hx rfl (hb hby at_51) ?_
      show Steps p.tables e below (s₁.setTop (mkF m 52 #[.val (.int p0), .val (.int p1), .val (.int p2), .val (.int p3), .val (.int va), .val (.int vb), .val (.int v5), .val (.int v9), .unset, .unset, .unset, .unset, .unset, .unset, .unset, .unset, .unset, .unset, .unset, .unset, .unset, .unset, .unset] [(.int (0 : Int32))])) _
      rw [hv13]
      exact Steps.refl _
    · rw [if_neg hc12] at hv13
      refine XS.ifNo X0.here hx rfl (hb hby at_44) rfl ((if0 _ _).trans (feq hc12).1) ?_
      show Steps p.tables e below (s₁.setTop (mkF m 47 #[.val (.int p0), .val (.int p1), .val (.int p2), .val (.int p3), .val (.int va), .val (.int vb), .val (.int v5), .val (.int v9), .unset, .unset, .unset, .unset, .unset, .unset, .unset, .unset, .unset, .unset, .unset, .unset, .unset, .unset, .unset] [])) _
      refine XS.iconst X0.here hx rfl (hb hby at_47) ?_
      show Steps p.tables e below (s₁.setTop (mkF m 48 #[.val (.int p0), .val (.int p1), .val (.int p2), .val (.int p3), .val (.int va), .val (.int vb), .val (.int v5), .val (.int v9), .unset, .unset, .unset, .unset, .unset, .unset, .unset, .unset, .unset, .unset, .unset, .unset, .unset, .unset, .unset] [(.int (1 : Int32))])) _
      refine XS.goto X0.here hx rfl (pc0 := 48) (pc' := 52) rfl (hb hby at_48) (by decide) (by decide) ?_
      show Steps p.tables e below (s₁.setTop (mkF m 52 #[.val (.int p0), .val (.int p1), .val (.int p2), .val (.int p3), .val (.int va), .val (.int vb), .val (.int v5), .val (.int v9), .unset, .unset, .unset, .unset, .unset, .unset, .unset, .unset, .unset, .unset, .unset, .unset, .unset, .unset, .unset] [(.int (1 : Int32))])) _
      rw [hv13]
      exact Steps.refl _
  have q15 : Steps p.tables e below (s₁.setTop (entryFrame m #[(.int p0), (.int p1), (.int p2), (.int p3)] maxLocals)) (s₁.setTop (mkF m 54 #[.val (.int p0), .val (.int p1), .val (.int p2), .val (.int p3), .val (.int va), .val (.int vb), .val (.int v5), .val (.int v9), .val (.int v13), .unset, .unset, .unset, .unset, .unset, .unset, .unset, .unset, .unset, .unset, .unset, .unset, .unset, .unset] [])) := q14.trans (by
      show Steps p.tables e below (s₁.setTop (mkF m 52 #[.val (.int p0), .val (.int p1), .val (.int p2), .val (.int p3), .val (.int va), .val (.int vb), .val (.int v5), .val (.int v9), .unset, .unset, .unset, .unset, .unset, .unset, .unset, .unset, .unset, .unset, .unset, .unset, .unset, .unset, .unset] [(.int v13)])) _
      refine XS.istore X0.here hx rfl (hb hby at_52) rfl (l' := #[.val (.int p0), .val (.int p1), .val (.int p2), .val (.int p3), .val (.int va), .val (.int vb), .val (.int v5), .val (.int v9), .val (.int v13), .unset, .unset, .unset, .unset, .unset, .unset, .unset, .unset, .unset, .unset, .unset, .unset, .unset, .unset]) rfl ?_
      show Steps p.tables e below (s₁.setTop (mkF m 54 #[.val (.int p0), .val (.int p1), .val (.int p2), .val (.int p3), .val (.int va), .val (.int vb), .val (.int v5), .val (.int v9), .val (.int v13), .unset, .unset, .unset, .unset, .unset, .unset, .unset, .unset, .unset, .unset, .unset, .unset, .unset, .unset] [])) _
      exact Steps.refl _)
  unfold M_core at hM
  obtain ⟨T16, h16, X16, e16, E16, A16, D16, -, st16⟩ := newO X0 hx hZ hown (hw _ (List.mem_of_getElem? (i := 0) rfl)) (hw _ (List.mem_of_getElem? (i := 1) rfl)) (hw _ (List.mem_of_getElem? (i := 2) rfl)) e0 (g := (mkF m 54 #[.val (.int p0), .val (.int p1), .val (.int p2), .val (.int p3), .val (.int va), .val (.int vb), .val (.int v5), .val (.int v9), .val (.int v13), .unset, .unset, .unset, .unset, .unset, .unset, .unset, .unset, .unset, .unset, .unset, .unset, .unset, .unset] [])) rfl (hb hby at_54) (by decide) (by decide)
  obtain ⟨fg, g16⟩ : ∃ z, z = h0.size := ⟨_, rfl⟩
  rw [← g16] at A16 D16 st16
  have ge_fg : n0 ≤ fg := Nat.le_trans Z0 (Nat.le_of_eq g16.symm)
  have Z16 : n0 ≤ h16.size := Nat.le_trans Z0 E16.1
  have F_fg_parent : Fld Z h16 fg "com/example/tideplan/tideplan/planner/ForwardGroups" "parent" "[I" .null := D16 (Or.inr (hw _ (List.mem_of_getElem? (i := 11) rfl))) (ty := (.array .int)) (by decide)
  have F_fg_size : Fld Z h16 fg "com/example/tideplan/tideplan/planner/ForwardGroups" "size" "[I" .null := D16 (Or.inr (hw _ (List.mem_of_getElem? (i := 13) rfl))) (ty := (.array .int)) (by decide)
  have F_fg_parallelism : Fld Z h16 fg "com/example/tideplan/tideplan/planner/ForwardGroups" "parallelism" "[I" .null := D16 (Or.inr (hw _ (List.mem_of_getElem? (i := 15) rfl))) (ty := (.array .int)) (by decide)
  have q17 : Steps p.tables e below (s₁.setTop (entryFrame m #[(.int p0), (.int p1), (.int p2), (.int p3)] maxLocals)) (T16.setTop (mkF m 57 #[.val (.int p0), .val (.int p1), .val (.int p2), .val (.int p3), .val (.int va), .val (.int vb), .val (.int v5), .val (.int v9), .val (.int v13), .unset, .unset, .unset, .unset, .unset, .unset, .unset, .unset, .unset, .unset, .unset, .unset, .unset, .unset] [(.ref fg)])) := q15.trans (st16 _ (Steps.refl _))
  have q18 : Steps p.tables e below (s₁.setTop (entryFrame m #[(.int p0), (.int p1), (.int p2), (.int p3)] maxLocals)) (T16.setTop (mkF m 59 #[.val (.int p0), .val (.int p1), .val (.int p2), .val (.int p3), .val (.int va), .val (.int vb), .val (.int v5), .val (.int v9), .val (.int v13), .unset, .unset, .unset, .unset, .unset, .unset, .unset, .unset, .unset, .unset, .unset, .unset, .unset, .unset] [(.int (3 : Int32)), (.ref fg), (.ref fg)])) := q17.trans (by
      show Steps p.tables e below (T16.setTop (mkF m 57 #[.val (.int p0), .val (.int p1), .val (.int p2), .val (.int p3), .val (.int va), .val (.int vb), .val (.int v5), .val (.int v9), .val (.int v13), .unset, .unset, .unset, .unset, .unset, .unset, .unset, .unset, .unset, .unset, .unset, .unset, .unset, .unset] [(.ref fg)])) _
      refine XS.dup X16.here hx rfl (hb hby at_57) rfl rfl ?_
      show Steps p.tables e below (T16.setTop (mkF m 58 #[.val (.int p0), .val (.int p1), .val (.int p2), .val (.int p3), .val (.int va), .val (.int vb), .val (.int v5), .val (.int v9), .val (.int v13), .unset, .unset, .unset, .unset, .unset, .unset, .unset, .unset, .unset, .unset, .unset, .unset, .unset, .unset] [(.ref fg), (.ref fg)])) _
      refine XS.iconst X16.here hx rfl (hb hby at_58) ?_
      show Steps p.tables e below (T16.setTop (mkF m 59 #[.val (.int p0), .val (.int p1), .val (.int p2), .val (.int p3), .val (.int va), .val (.int vb), .val (.int v5), .val (.int v9), .val (.int v13), .unset, .unset, .unset, .unset, .unset, .unset, .unset, .unset, .unset, .unset, .unset, .unset, .unset, .unset] [(.int (3 : Int32)), (.ref fg), (.ref fg)])) _
      exact Steps.refl _)
  obtain ⟨r19, hr19, hM⟩ := Option.bind_eq_some_iff.mp hM
  obtain ⟨_, _, ⟨T20, L20, k20, n20⟩, -, X20, ⟨Lc20, hQ20, l20, y20, z20⟩, st20⟩ := X16.specialBack hx (y := (⟨"com/example/tideplan/tideplan/planner/ForwardGroups", "<init>", "(I)V"⟩ : MethodName)) rfl hown (mvT hZ (hw _ (List.mem_of_getElem? (i := 3) rfl))) (mvT hZ (hw _ (List.mem_of_getElem? (i := 4) rfl))) (mvT hZ (hw _ (List.mem_of_getElem? (i := 5) rfl))) (by decide) (backOf (W := 1) (rmC l Z a0 hw [] fg (3 : Int32) r19 h16 n0 Z16 F_fg_parent F_fg_size F_fg_parallelism A16 ge_fg hr19) hZ (hw _ (List.mem_of_getElem? (i := 5) rfl)) (hw _ (List.mem_of_getElem? (i := 2) rfl)) (by decide) (by decide)) (g := (mkF m 59 #[.val (.int p0), .val (.int p1), .val (.int p2), .val (.int p3), .val (.int va), .val (.int vb), .val (.int v5), .val (.int v9), .val (.int v13), .unset, .unset, .unset, .unset, .unset, .unset, .unset, .unset, .unset, .unset, .unset, .unset, .unset, .unset] [(.int (3 : Int32)), (.ref fg), (.ref fg)])) rfl (by rw [hml]; rfl) (Steps.refl _) (a := fg) (argsL := [(.int (3 : Int32))]) (rest := [(.ref fg)]) (lenOf pd_4 rfl) rfl (by show 2 * 0 + _ ≤ _; exact Nat.le_of_eq rfl) (hb hby at_59) (fun _ _ => ⟨rfl, e16, (by decide : 1 + 3 ≤ _), (by decide : 3 + 12 ≤ _)⟩)
  dsimp only [Pt.U, Pt.locs, Pt.cells, Pt.slots] at X20 l20 y20 z20 st20 hQ20
  subst l20 y20 z20
  obtain ⟨aP, aS, aQ, rfl, N20q, K20, E20, F20_1, F20_2, F20_3, J20_1, J20_2, J20_3, o20_1, o20_2, o20_3, ne_aP_aS, ne_aP_aQ, ne_aS_aQ⟩ := hQ20
  have N20 := Fr.app N0 N20q
  have ge_aP : n0 ≤ aP := Nat.le_trans Z16 o20_1
  have ne_fg_aP : fg ≠ aP := Nat.ne_of_lt (Nat.lt_of_lt_of_le A16.lt o20_1)
  have ge_aS : n0 ≤ aS := Nat.le_trans Z16 o20_2
  have ne_fg_aS : fg ≠ aS := Nat.ne_of_lt (Nat.lt_of_lt_of_le A16.lt o20_2)
  have ge_aQ : n0 ≤ aQ := Nat.le_trans Z16 o20_3
  have ne_fg_aQ : fg ≠ aQ := Nat.ne_of_lt (Nat.lt_of_lt_of_le A16.lt o20_3)
  have Z20 : n0 ≤ T20.heap.size := Nat.le_trans Z16 K20.1
  have q21 : Steps p.tables e below (s₁.setTop (entryFrame m #[(.int p0), (.int p1), (.int p2), (.int p3)] maxLocals)) (T20.setTop (mkF m 62 #[.val (.int p0), .val (.int p1), .val (.int p2), .val (.int p3), .val (.int va), .val (.int vb), .val (.int v5), .val (.int v9), .val (.int v13), .unset, .unset, .unset, .unset, .unset, .unset, .unset, .unset, .unset, .unset, .unset, .unset, .unset, .unset] [(.ref fg)])) := q18.trans (st20)
  have q22 : Steps p.tables e below (s₁.setTop (entryFrame m #[(.int p0), (.int p1), (.int p2), (.int p3)] maxLocals)) (T20.setTop (mkF m 64 #[.val (.int p0), .val (.int p1), .val (.int p2), .val (.int p3), .val (.int va), .val (.int vb), .val (.int v5), .val (.int v9), .val (.int v13), .val (.ref fg), .unset, .unset, .unset, .unset, .unset, .unset, .unset, .unset, .unset, .unset, .unset, .unset, .unset] [])) := q21.trans (by
      show Steps p.tables e below (T20.setTop (mkF m 62 #[.val (.int p0), .val (.int p1), .val (.int p2), .val (.int p3), .val (.int va), .val (.int vb), .val (.int v5), .val (.int v9), .val (.int v13), .unset, .unset, .unset, .unset, .unset, .unset, .unset, .unset, .unset, .unset, .unset, .unset, .unset, .unset] [(.ref fg)])) _
      refine XS.astore X20.here hx rfl (hb hby at_62) rfl rfl (l' := #[.val (.int p0), .val (.int p1), .val (.int p2), .val (.int p3), .val (.int va), .val (.int vb), .val (.int v5), .val (.int v9), .val (.int v13), .val (.ref fg), .unset, .unset, .unset, .unset, .unset, .unset, .unset, .unset, .unset, .unset, .unset, .unset, .unset]) rfl ?_
      show Steps p.tables e below (T20.setTop (mkF m 64 #[.val (.int p0), .val (.int p1), .val (.int p2), .val (.int p3), .val (.int va), .val (.int vb), .val (.int v5), .val (.int v9), .val (.int v13), .val (.ref fg), .unset, .unset, .unset, .unset, .unset, .unset, .unset, .unset, .unset, .unset, .unset, .unset, .unset] [])) _
      exact Steps.refl _)
  obtain ⟨r23, hr23, hM⟩ := Option.bind_eq_some_iff.mp hM
  obtain ⟨T24, L24, h24, X24, e24, N24, Zq24, K24, J24_0, J24_1, J24_2, ql24⟩ := sg1 hx hZ hw hby hml hown fg aP aS aQ p0 p1 p2 p3 va vb v9 v13  ge_aP ge_aS ge_aQ ne_aP_aS ne_aP_aQ ne_aS_aQ ne_fg_aP ne_fg_aS ne_fg_aQ  v5 r19.1 r19.2.1 r19.2.2  _ hr23 X20 rfl N20 Z20  E20 F20_1 F20_2 F20_3 J20_1 J20_2 J20_3
  have Xfg_24 := E20.keep K24
  have Ffg_parent_24 := F20_1.keep K24 (ninS ne_fg_aP (ninS ne_fg_aS (ninS ne_fg_aQ nin0)))
  have Ffg_size_24 := F20_2.keep K24 (ninS ne_fg_aP (ninS ne_fg_aS (ninS ne_fg_aQ nin0)))
  have Ffg_parallelism_24 := F20_3.keep K24 (ninS ne_fg_aP (ninS ne_fg_aS (ninS ne_fg_aQ nin0)))
  have Z24 : n0 ≤ h24.size := Nat.le_trans Z20 K24.1
  have q25 : Steps p.tables e below (s₁.setTop (entryFrame m #[(.int p0), (.int p1), (.int p2), (.int p3)] maxLocals)) (T24.setTop (mkF m 81 #[.val (.int p0), .val (.int p1), .val (.int p2), .val (.int p3), .val (.int va), .val (.int vb), .val (.int v5), .val (.int v9), .val (.int v13), .val (.ref fg), .unset, .unset, .unset, .unset, .unset, .unset, .unset, .unset, .unset, .unset, .unset, .unset, .unset] [])) := q22.trans ql24
  have q26 : Steps p.tables e below (s₁.setTop (entryFrame m #[(.int p0), (.int p1), (.int p2), (.int p3)] maxLocals)) (T24.setTop (mkF m 85 #[.val (.int p0), .val (.int p1), .val (.int p2), .val (.int p3), .val (.int va), .val (.int vb), .val (.int v5), .val (.int v9), .val (.int v13), .val (.ref fg), .unset, .unset, .unset, .unset, .unset, .unset, .unset, .unset, .unset, .unset, .unset, .unset, .unset] [(.int va), (.int v5)])) := q25.trans (by
      show Steps p.tables e below (T24.setTop (mkF m 81 #[.val (.int p0), .val (.int p1), .val (.int p2), .val (.int p3), .val (.int va), .val (.int vb), .val (.int v5), .val (.int v9), .val (.int v13), .val (.ref fg), .unset, .unset, .unset, .unset, .unset, .unset, .unset, .unset, .unset, .unset, .unset, .unset, .unset] [])) _
      refine XS.iload X24.here hx rfl (hb hby at_81) rfl ?_
      show Steps p.tables e below (T24.setTop (mkF m 83 #[.val (.int p0), .val (.int p1), .val (.int p2), .val (.int p3), .val (.int va), .val (.int vb), .val (.int v5), .val (.int v9), .val (.int v13), .val (.ref fg), .unset, .unset, .unset, .unset, .unset, .unset, .unset, .unset, .unset, .unset, .unset, .unset, .unset] [(.int v5)])) _
      refine XS.iload X24.here hx rfl (hb hby at_83) rfl ?_
      show Steps p.tables e below (T24.setTop (mkF m 85 #[.val (.int p0), .val (.int p1), .val (.int p2), .val (.int p3), .val (.int va), .val (.int vb), .val (.int v5), .val (.int v9), .val (.int v13), .val (.ref fg), .unset, .unset, .unset, .unset, .unset, .unset, .unset, .unset, .unset, .unset, .unset, .unset, .unset] [(.int va), (.int v5)])) _
      exact Steps.refl _)
  obtain ⟨_, _, ⟨T27, L27, k27, n27⟩, -, X27, ⟨Lc27, hQ27, l27, y27, z27⟩, st27⟩ := Jvm.LawKit.callS X24 hx (y := (⟨"com/example/tideplan/tideplan/planner/ForwardGroupsJoinPinLaw", "grp", "(ZI)I"⟩ : MethodName)) hown (mvT hZ (hw _ (List.mem_of_getElem? (i := 16) rfl))) (mvT hZ (hw _ (List.mem_of_getElem? (i := 17) rfl))) (mvT hZ (hw _ (List.mem_of_getElem? (i := 18) rfl))) (mvT hZ (hw _ (List.mem_of_getElem? (i := 19) rfl))) (by decide) (backOf (W := 0) (rmG l Z a0 hw [] v5 va h24 n0 Z24) hZ (hw _ (List.mem_of_getElem? (i := 19) rfl)) (hw _ (List.mem_of_getElem? (i := 18) rfl)) (by decide) (by decide)) (g := (mkF m 85 #[.val (.int p0), .val (.int p1), .val (.int p2), .val (.int p3), .val (.int va), .val (.int vb), .val (.int v5), .val (.int v9), .val (.int v13), .val (.ref fg), .unset, .unset, .unset, .unset, .unset, .unset, .unset, .unset, .unset, .unset, .unset, .unset, .unset] [(.int va), (.int v5)])) rfl (by rw [hml]; rfl) (argsL := [(.int v5), (.int va)]) (rest := []) (lenOf pd_1 rfl) rfl (by show 2 * 0 + _ ≤ _; exact Nat.le_of_eq rfl) (hb hby at_85) (fun _ _ => ⟨rfl, e24, (by decide : 4 + 0 ≤ _), (by decide : 15 + 0 ≤ _)⟩)
  dsimp only [Pt.U, Pt.locs, Pt.cells, Pt.slots] at X27 l27 y27 z27 st27 hQ27
  subst l27 y27 z27
  obtain ⟨rfl, N27q, e27⟩ := hQ27
  have N27 := Fr.app N24 N27q
  have q28 : Steps p.tables e below (s₁.setTop (entryFrame m #[(.int p0), (.int p1), (.int p2), (.int p3)] maxLocals)) (T27.setTop (mkF m 88 #[.val (.int p0), .val (.int p1), .val (.int p2), .val (.int p3), .val (.int va), .val (.int vb), .val (.int v5), .val (.int v9), .val (.int v13), .val (.ref fg), .unset, .unset, .unset, .unset, .unset, .unset, .unset, .unset, .unset, .unset, .unset, .unset, .unset] [(.int (Fg v5 va))])) := q26.trans (st27 _ (Steps.refl _))
  have q29 : Steps p.tables e below (s₁.setTop (entryFrame m #[(.int p0), (.int p1), (.int p2), (.int p3)] maxLocals)) (T27.setTop (mkF m 90 #[.val (.int p0), .val (.int p1), .val (.int p2), .val (.int p3), .val (.int va), .val (.int vb), .val (.int v5), .val (.int v9), .val (.int v13), .val (.ref fg), .val (.int (Fg v5 va)), .unset, .unset, .unset, .unset, .unset, .unset, .unset, .unset, .unset, .unset, .unset, .unset] [])) := q28.trans (by
      show Steps p.tables e below (T27.setTop (mkF m 88 #[.val (.int p0), .val (.int p1), .val (.int p2), .val (.int p3), .val (.int va), .val (.int vb), .val (.int v5), .val (.int v9), .val (.int v13), .val (.ref fg), .unset, .unset, .unset, .unset, .unset, .unset, .unset, .unset, .unset, .unset, .unset, .unset, .unset] [(.int (Fg v5 va))])) _
      refine XS.istore X27.here hx rfl (hb hby at_88) rfl (l' := #[.val (.int p0), .val (.int p1), .val (.int p2), .val (.int p3), .val (.int va), .val (.int vb), .val (.int v5), .val (.int v9), .val (.int v13), .val (.ref fg), .val (.int (Fg v5 va)), .unset, .unset, .unset, .unset, .unset, .unset, .unset, .unset, .unset, .unset, .unset, .unset]) rfl ?_
      show Steps p.tables e below (T27.setTop (mkF m 90 #[.val (.int p0), .val (.int p1), .val (.int p2), .val (.int p3), .val (.int va), .val (.int vb), .val (.int v5), .val (.int v9), .val (.int v13), .val (.ref fg), .val (.int (Fg v5 va)), .unset, .unset, .unset, .unset, .unset, .unset, .unset, .unset, .unset, .unset, .unset, .unset] [])) _
      exact Steps.refl _)
  obtain ⟨ga, hga, hM⟩ := Option.bind_eq_some_iff.mp hM
  have hga := (Option.some.inj hga).symm
  rw [← hga] at q29
  have q30 : Steps p.tables e below (s₁.setTop (entryFrame m #[(.int p0), (.int p1), (.int p2), (.int p3)] maxLocals)) (T27.setTop (mkF m 94 #[.val (.int p0), .val (.int p1), .val (.int p2), .val (.int p3), .val (.int va), .val (.int vb), .val (.int v5), .val (.int v9), .val (.int v13), .val (.ref fg), .val (.int ga), .unset, .unset, .unset, .unset, .unset, .unset, .unset, .unset, .unset, .unset, .unset, .unset] [(.int vb), (.int v5)])) := q29.trans (by
      show Steps p.tables e below (T27.setTop (mkF m 90 #[.val (.int p0), .val (.int p1), .val (.int p2), .val (.int p3), .val (.int va), .val (.int vb), .val (.int v5), .val (.int v9), .val (.int v13), .val (.ref fg), .val (.int ga), .unset, .unset, .unset, .unset, .unset, .unset, .unset, .unset, .unset, .unset, .unset, .unset] [])) _
      refine XS.iload X27.here hx rfl (hb hby at_90) rfl ?_
      show Steps p.tables e below (T27.setTop (mkF m 92 #[.val (.int p0), .val (.int p1), .val (.int p2), .val (.int p3), .val (.int va), .val (.int vb), .val (.int v5), .val (.int v9), .val (.int v13), .val (.ref fg), .val (.int ga), .unset, .unset, .unset, .unset, .unset, .unset, .unset, .unset, .unset, .unset, .unset, .unset] [(.int v5)])) _
      refine XS.iload X27.here hx rfl (hb hby at_92) rfl ?_
      show Steps p.tables e below (T27.setTop (mkF m 94 #[.val (.int p0), .val (.int p1), .val (.int p2), .val (.int p3), .val (.int va), .val (.int vb), .val (.int v5), .val (.int v9), .val (.int v13), .val (.ref fg), .val (.int ga), .unset, .unset, .unset, .unset, .unset, .unset, .unset, .unset, .unset, .unset, .unset, .unset] [(.int vb), (.int v5)])) _
      exact Steps.refl _)
  obtain ⟨_, _, ⟨T31, L31, k31, n31⟩, -, X31, ⟨Lc31, hQ31, l31, y31, z31⟩, st31⟩ := Jvm.LawKit.callS X27 hx (y := (⟨"com/example/tideplan/tideplan/planner/ForwardGroupsJoinPinLaw", "grp", "(ZI)I"⟩ : MethodName)) hown (mvT hZ (hw _ (List.mem_of_getElem? (i := 16) rfl))) (mvT hZ (hw _ (List.mem_of_getElem? (i := 17) rfl))) (mvT hZ (hw _ (List.mem_of_getElem? (i := 18) rfl))) (mvT hZ (hw _ (List.mem_of_getElem? (i := 19) rfl))) (by decide) (backOf (W := 0) (rmG l Z a0 hw [] v5 vb h24 n0 Z24) hZ (hw _ (List.mem_of_getElem? (i := 19) rfl)) (hw _ (List.mem_of_getElem? (i := 18) rfl)) (by decide) (by decide)) (g := (mkF m 94 #[.val (.int p0), .val (.int p1), .val (.int p2), .val (.int p3), .val (.int va), .val (.int vb), .val (.int v5), .val (.int v9), .val (.int v13), .val (.ref fg), .val (.int ga), .unset, .unset, .unset, .unset, .unset, .unset, .unset, .unset, .unset, .unset, .unset, .unset] [(.int vb), (.int v5)])) rfl (by rw [hml]; rfl) (argsL := [(.int v5), (.int vb)]) (rest := []) (lenOf pd_1 rfl) rfl (by show 2 * 0 + _ ≤ _; exact Nat.le_of_eq rfl) (hb hby at_94) (fun _ _ => ⟨rfl, e27, (by decide : 4 + 0 ≤ _), (by decide : 15 + 0 ≤ _)⟩)
  dsimp only [Pt.U, Pt.locs, Pt.cells, Pt.slots] at X31 l31 y31 z31 st31 hQ31
  subst l31 y31 z31
  obtain ⟨rfl, N31q, e31⟩ := hQ31
  have N31 := Fr.app N27 N31q
  have q32 : Steps p.tables e below (s₁.setTop (entryFrame m #[(.int p0), (.int p1), (.int p2), (.int p3)] maxLocals)) (T31.setTop (mkF m 97 #[.val (.int p0), .val (.int p1), .val (.int p2), .val (.int p3), .val (.int va), .val (.int vb), .val (.int v5), .val (.int v9), .val (.int v13), .val (.ref fg), .val (.int ga), .unset, .unset, .unset, .unset, .unset, .unset, .unset, .unset, .unset, .unset, .unset, .unset] [(.int (Fg v5 vb))])) := q30.trans (st31 _ (Steps.refl _))
  have q33 : Steps p.tables e below (s₁.setTop (entryFrame m #[(.int p0), (.int p1), (.int p2), (.int p3)] maxLocals)) (T31.setTop (mkF m 99 #[.val (.int p0), .val (.int p1), .val (.int p2), .val (.int p3), .val (.int va), .val (.int vb), .val (.int v5), .val (.int v9), .val (.int v13), .val (.ref fg), .val (.int ga), .val (.int (Fg v5 vb)), .unset, .unset, .unset, .unset, .unset, .unset, .unset, .unset, .unset, .unset, .unset] [])) := q32.trans (by
      show Steps p.tables e below (T31.setTop (mkF m 97 #[.val (.int p0), .val (.int p1), .val (.int p2), .val (.int p3), .val (.int va), .val (.int vb), .val (.int v5), .val (.int v9), .val (.int v13), .val (.ref fg), .val (.int ga), .unset, .unset, .unset, .unset, .unset, .unset, .unset, .unset, .unset, .unset, .unset, .unset] [(.int (Fg v5 vb))])) _
      refine XS.istore X31.here hx rfl (hb hby at_97) rfl (l' := #[.val (.int p0), .val (.int p1), .val (.int p2), .val (.int p3), .val (.int va), .val (.int vb), .val (.int v5), .val (.int v9), .val (.int v13), .val (.ref fg), .val (.int ga), .val (.int (Fg v5 vb)), .unset, .unset, .unset, .unset, .unset, .unset, .unset, .unset, .unset, .unset, .unset]) rfl ?_
      show Steps p.tables e below (T31.setTop (mkF m 99 #[.val (.int p0), .val (.int p1), .val (.int p2), .val (.int p3), .val (.int va), .val (.int vb), .val (.int v5), .val (.int v9), .val (.int v13), .val (.ref fg), .val (.int ga), .val (.int (Fg v5 vb)), .unset, .unset, .unset, .unset, .unset, .unset, .unset, .unset, .unset, .unset, .unset] [])) _
      exact Steps.refl _)
  obtain ⟨gb, hgb, hM⟩ := Option.bind_eq_some_iff.mp hM
  have hgb := (Option.some.inj hgb).symm
  rw [← hgb] at q33
  have q34 : Steps p.tables e below (s₁.setTop (entryFrame m #[(.int p0), (.int p1), (.int p2), (.int p3)] maxLocals)) (T31.setTop (mkF m 103 #[.val (.int p0), .val (.int p1), .val (.int p2), .val (.int p3), .val (.int va), .val (.int vb), .val (.int v5), .val (.int v9), .val (.int v13), .val (.ref fg), .val (.int ga), .val (.int gb), .unset, .unset, .unset, .unset, .unset, .unset, .unset, .unset, .unset, .unset, .unset] [(.int gb), (.int ga)])) := q33.trans (by
      show Steps p.tables e below (T31.setTop (mkF m 99 #[.val (.int p0), .val (.int p1), .val (.int p2), .val (.int p3), .val (.int va), .val (.int vb), .val (.int v5), .val (.int v9), .val (.int v13), .val (.ref fg), .val (.int ga), .val (.int gb), .unset, .unset, .unset, .unset, .unset, .unset, .unset, .unset, .unset, .unset, .unset] [])) _
      refine XS.iload X31.here hx rfl (hb hby at_99) rfl ?_
      show Steps p.tables e below (T31.setTop (mkF m 101 #[.val (.int p0), .val (.int p1), .val (.int p2), .val (.int p3), .val (.int va), .val (.int vb), .val (.int v5), .val (.int v9), .val (.int v13), .val (.ref fg), .val (.int ga), .val (.int gb), .unset, .unset, .unset, .unset, .unset, .unset, .unset, .unset, .unset, .unset, .unset] [(.int ga)])) _
      refine XS.iload X31.here hx rfl (hb hby at_101) rfl ?_
      show Steps p.tables e below (T31.setTop (mkF m 103 #[.val (.int p0), .val (.int p1), .val (.int p2), .val (.int p3), .val (.int va), .val (.int vb), .val (.int v5), .val (.int v9), .val (.int v13), .val (.ref fg), .val (.int ga), .val (.int gb), .unset, .unset, .unset, .unset, .unset, .unset, .unset, .unset, .unset, .unset, .unset] [(.int gb), (.int ga)])) _
      exact Steps.refl _)
  obtain ⟨v36, hv36, hM⟩ := Option.bind_eq_some_iff.mp hM
  have hv36 := (Option.some.inj hv36).symm
  have q37 : Steps p.tables e below (s₁.setTop (entryFrame m #[(.int p0), (.int p1), (.int p2), (.int p3)] maxLocals)) (T31.setTop (mkF m 111 #[.val (.int p0), .val (.int p1), .val (.int p2), .val (.int p3), .val (.int va), .val (.int vb), .val (.int v5), .val (.int v9), .val (.int v13), .val (.ref fg), .val (.int ga), .val (.int gb), .unset, .unset, .unset, .unset, .unset, .unset, .unset, .unset, .unset, .unset, .unset] [(.int v36)])) := by
    refine q34.trans ?_
    show Steps p.tables e below (T31.setTop (mkF m 103 #[.val (.int p0), .val (.int p1), .val (.int p2), .val (.int p3), .val (.int va), .val (.int vb), .val (.int v5), .val (.int v9), .val (.int v13), .val (.ref fg), .val (.int ga), .val (.int gb), .unset, .unset, .unset, .unset, .unset, .unset, .unset, .unset, .unset, .unset, .unset] [(.int gb), (.int ga)])) _
    by_cases hc35 : ga = gb
    · rw [if_pos hc35] at hv36
      refine XS.icmpNo X31.here hx rfl (hb hby at_103) rfl (teq hc35).2 ?_
      show Steps p.tables e below (T31.setTop (mkF m 106 #[.val (.int p0), .val (.int p1), .val (.int p2), .val (.int p3), .val (.int va), .val (.int vb), .val (.int v5), .val (.int v9), .val (.int v13), .val (.ref fg), .val (.int ga), .val (.int gb), .unset, .unset, .unset, .unset, .unset, .unset, .unset, .unset, .unset, .unset, .unset] [])) _
      refine XS.iconst X31.here hx rfl (hb hby at_106) ?_
      show Steps p.tables e below (T31.setTop (mkF m 107 #[.val (.int p0), .val (.int p1), .val (.int p2), .val (.int p3), .val (.int va), .val (.int vb), .val (.int v5), .val (.int v9), .val (.int v13), .val (.ref fg), .val (.int ga), .val (.int gb), .unset, .unset, .unset, .unset, .unset, .unset, .unset, .unset, .unset, .unset, .unset] [(.int (1 : Int32))])) _
      refine XS.goto X31.here hx rfl (pc0 := 107) (pc' := 111) rfl (hb hby at_107) (by decide) (by decide) ?_
      show Steps p.tables e below (T31.setTop (mkF m 111 #[.val (.int p0), .val (.int p1), .val (.int p2), .val (.int p3), .val (.int va), .val (.int vb), .val (.int v5), .val (.int v9), .val (.int v13), .val (.ref fg), .val (.int ga), .val (.int gb), .unset, .unset, .unset, .unset, .unset, .unset, .unset, .unset, .unset, .unset, .unset] [(.int (1 : Int32))])) _
      rw [hv36]
      exact Steps.refl _
    · rw [if_neg hc35] at hv36
      refine XS.icmpYes X31.here hx rfl (pc0 := 103) (pc' := 110) rfl (hb hby at_103) rfl (feq hc35).2 (by decide) (by decide) ?_
      show Steps p.tables e below (T31.setTop (mkF m 110 #[.val (.int p0), .val (.int p1), .val (.int p2), .val (.int p3), .val (.int va), .val (.int vb), .val (.int v5), .val (.int v9), .val (.int v13), .val (.ref fg), .val (.int ga), .val (.int gb), .unset, .unset, .unset, .unset, .unset, .unset, .unset, .unset, .unset, .unset, .unset] [])) _
      refine XS.iconst X31.here hx rfl (hb hby at_110) ?_
      show Steps p.tables e below (T31.setTop (mkF m 111 #[.val (.int p0), .val (.int p1), .val (.int p2), .val (.int p3), .val (.int va), .val (.int vb), .val (.int v5), .val (.int v9), .val (.int v13), .val (.ref fg), .val (.int ga), .val (.int gb), .unset, .unset, .unset, .unset, .unset, .unset, .unset, .unset, .unset, .unset, .unset] [(.int (0 : Int32))])) _
      rw [hv36]
      exact Steps.refl _
  have q38 : Steps p.tables e below (s₁.setTop (entryFrame m #[(.int p0), (.int p1), (.int p2), (.int p3)] maxLocals)) (T31.setTop (mkF m 115 #[.val (.int p0), .val (.int p1), .val (.int p2), .val (.int p3), .val (.int va), .val (.int vb), .val (.int v5), .val (.int v9), .val (.int v13), .val (.ref fg), .val (.int ga), .val (.int gb), .val (.int v36), .unset, .unset, .unset, .unset, .unset, .unset, .unset, .unset, .unset, .unset] [(.int v13)])) := q37.trans (by
      show Steps p.tables e below (T31.setTop (mkF m 111 #[.val (.int p0), .val (.int p1), .val (.int p2), .val (.int p3), .val (.int va), .val (.int vb), .val (.int v5), .val (.int v9), .val (.int v13), .val (.ref fg), .val (.int ga), .val (.int gb), .unset, .unset, .unset, .unset, .unset, .unset, .unset, .unset, .unset, .unset, .unset] [(.int v36)])) _
      refine XS.istore X31.here hx rfl (hb hby at_111) rfl (l' := #[.val (.int p0), .val (.int p1), .val (.int p2), .val (.int p3), .val (.int va), .val (.int vb), .val (.int v5), .val (.int v9), .val (.int v13), .val (.ref fg), .val (.int ga), .val (.int gb), .val (.int v36), .unset, .unset, .unset, .unset, .unset, .unset, .unset, .unset, .unset, .unset]) rfl ?_
      show Steps p.tables e below (T31.setTop (mkF m 113 #[.val (.int p0), .val (.int p1), .val (.int p2), .val (.int p3), .val (.int va), .val (.int vb), .val (.int v5), .val (.int v9), .val (.int v13), .val (.ref fg), .val (.int ga), .val (.int gb), .val (.int v36), .unset, .unset, .unset, .unset, .unset, .unset, .unset, .unset, .unset, .unset] [])) _
      refine XS.iload X31.here hx rfl (hb hby at_113) rfl ?_
      show Steps p.tables e below (T31.setTop (mkF m 115 #[.val (.int p0), .val (.int p1), .val (.int p2), .val (.int p3), .val (.int va), .val (.int vb), .val (.int v5), .val (.int v9), .val (.int v13), .val (.ref fg), .val (.int ga), .val (.int gb), .val (.int v36), .unset, .unset, .unset, .unset, .unset, .unset, .unset, .unset, .unset, .unset] [(.int v13)])) _
      exact Steps.refl _)
  obtain ⟨v42, hv42, hM⟩ := Option.bind_eq_some_iff.mp hM
  have hv42 := (Option.some.inj hv42).symm
  have q43 : Steps p.tables e below (s₁.setTop (entryFrame m #[(.int p0), (.int p1), (.int p2), (.int p3)] maxLocals)) (T31.setTop (mkF m 133 #[.val (.int p0), .val (.int p1), .val (.int p2), .val (.int p3), .val (.int va), .val (.int vb), .val (.int v5), .val (.int v9), .val (.int v13), .val (.ref fg), .val (.int ga), .val (.int gb), .val (.int v36), .unset, .unset, .unset, .unset, .unset, .unset, .unset, .unset, .unset, .unset] [(.int v42)])) := by
    refine q38.trans ?_
    show Steps p.tables e below (T31.setTop (mkF m 115 #[.val (.int p0), .val (.int p1), .val (.int p2), .val (.int p3), .val (.int va), .val (.int vb), .val (.int v5), .val (.int v9), .val (.int v13), .val (.ref fg), .val (.int ga), .val (.int gb), .val (.int v36), .unset, .unset, .unset, .unset, .unset, .unset, .unset, .unset, .unset, .unset] [(.int v13)])) _
    by_cases hc39 : v13 = (0 : Int32)
    · rw [if_pos hc39] at hv42
      refine XS.ifYes X31.here hx rfl (pc0 := 115) (pc' := 132) rfl (hb hby at_115) rfl ((if0 _ _).trans (teq hc39).1) (by decide) (by decide) ?_
      show Steps p.tables e below (T31.setTop (mkF m 132 #[.val (.int p0), .val (.int p1), .val (.int p2), .val (.int p3), .val (.int va), .val (.int vb), .val (.int v5), .val (.int v9), .val (.int v13), .val (.ref fg), .val (.int ga), .val (.int gb), .val (.int v36), .unset, .unset, .unset, .unset, .unset, .unset, .unset, .unset, .unset, .unset] [])) _
      refine XS.iconst X31.here hx rfl (hb hby at_132) ?_
      show Steps p.tables e below (T31.setTop (mkF m 133 #[.val (.int p0), .val (.int p1), .val (.int p2), .val (.int p3), .val (.int va), .val (.int vb), .val (.int v5), .val (.int v9), .val (.int v13), .val (.ref fg), .val (.int ga), .val (.int gb), .val (.int v36), .unset, .unset, .unset, .unset, .unset, .unset, .unset, .unset, .unset, .unset] [(.int (0 : Int32))])) _
      rw [hv42]
      exact Steps.refl _
    · rw [if_neg hc39] at hv42
      refine XS.ifNo X31.here hx rfl (hb hby at_115) rfl ((if0 _ _).trans (feq hc39).1) ?_
      show Steps p.tables e below (T31.setTop (mkF m 118 #[.val (.int p0), .val (.int p1), .val (.int p2), .val (.int p3), .val (.int va), .val (.int vb), .val (.int v5), .val (.int v9), .val (.int v13), .val (.ref fg), .val (.int ga), .val (.int gb), .val (.int v36), .unset, .unset, .unset, .unset, .unset, .unset, .unset, .unset, .unset, .unset] [])) _
      refine XS.iload X31.here hx rfl (hb hby at_118) rfl ?_
      show Steps p.tables e below (T31.setTop (mkF m 120 #[.val (.int p0), .val (.int p1), .val (.int p2), .val (.int p3), .val (.int va), .val (.int vb), .val (.int v5), .val (.int v9), .val (.int v13), .val (.ref fg), .val (.int ga), .val (.int gb), .val (.int v36), .unset, .unset, .unset, .unset, .unset, .unset, .unset, .unset, .unset, .unset] [(.int v36)])) _
      by_cases hc40 : v36 = (0 : Int32)
      · rw [if_pos hc40] at hv42
        refine XS.ifYes X31.here hx rfl (pc0 := 120) (pc' := 128) rfl (hb hby at_120) rfl ((if0 _ _).trans (teq hc40).1) (by decide) (by decide) ?_
        show Steps p.tables e below (T31.setTop (mkF m 128 #[.val (.int p0), .val (.int p1), .val (.int p2), .val (.int p3), .val (.int va), .val (.int vb), .val (.int v5), .val (.int v9), .val (.int v13), .val (.ref fg), .val (.int ga), .val (.int gb), .val (.int v36), .unset, .unset, .unset, .unset, .unset, .unset, .unset, .unset, .unset, .unset] [])) _
        refine XS.iconst X31.here hx rfl (hb hby at_128) ?_
        show Steps p.tables e below (T31.setTop (mkF m 129 #[.val (.int p0), .val (.int p1), .val (.int p2), .val (.int p3), .val (.int va), .val (.int vb), .val (.int v5), .val (.int v9), .val (.int v13), .val (.ref fg), .val (.int ga), .val (.int gb), .val (.int v36), .unset, .unset, .unset, .unset, .unset, .unset, .unset, .unset, .unset, .unset] [(.int (1 : Int32))])) _
        refine XS.goto X31.here hx rfl (pc0 := 129) (pc' := 133) rfl (hb hby at_129) (by decide) (by decide) ?_
        show Steps p.tables e below (T31.setTop (mkF m 133 #[.val (.int p0), .val (.int p1), .val (.int p2), .val (.int p3), .val (.int va), .val (.int vb), .val (.int v5), .val (.int v9), .val (.int v13), .val (.ref fg), .val (.int ga), .val (.int gb), .val (.int v36), .unset, .unset, .unset, .unset, .unset, .unset, .unset, .unset, .unset, .unset] [(.int (1 : Int32))])) _
        rw [hv42]
        exact Steps.refl _
      · rw [if_neg hc40] at hv42
        refine XS.ifNo X31.here hx rfl (hb hby at_120) rfl ((if0 _ _).trans (feq hc40).1) ?_
        show Steps p.tables e below (T31.setTop (mkF m 123 #[.val (.int p0), .val (.int p1), .val (.int p2), .val (.int p3), .val (.int va), .val (.int vb), .val (.int v5), .val (.int v9), .val (.int v13), .val (.ref fg), .val (.int ga), .val (.int gb), .val (.int v36), .unset, .unset, .unset, .unset, .unset, .unset, .unset, .unset, .unset, .unset] [])) _
        refine XS.iload X31.here hx rfl (hb hby at_123) rfl ?_
        show Steps p.tables e below (T31.setTop (mkF m 125 #[.val (.int p0), .val (.int p1), .val (.int p2), .val (.int p3), .val (.int va), .val (.int vb), .val (.int v5), .val (.int v9), .val (.int v13), .val (.ref fg), .val (.int ga), .val (.int gb), .val (.int v36), .unset, .unset, .unset, .unset, .unset, .unset, .unset, .unset, .unset, .unset] [(.int v9)])) _
        by_cases hc41 : v9 = (0 : Int32)
        · rw [if_pos hc41] at hv42
          refine XS.ifNo X31.here hx rfl (hb hby at_125) rfl ((if0 _ _).trans (teq hc41).2) ?_
          show Steps p.tables e below (T31.setTop (mkF m 128 #[.val (.int p0), .val (.int p1), .val (.int p2), .val (.int p3), .val (.int va), .val (.int vb), .val (.int v5), .val (.int v9), .val (.int v13), .val (.ref fg), .val (.int ga), .val (.int gb), .val (.int v36), .unset, .unset, .unset, .unset, .unset, .unset, .unset, .unset, .unset, .unset] [])) _
          refine XS.iconst X31.here hx rfl (hb hby at_128) ?_
          show Steps p.tables e below (T31.setTop (mkF m 129 #[.val (.int p0), .val (.int p1), .val (.int p2), .val (.int p3), .val (.int va), .val (.int vb), .val (.int v5), .val (.int v9), .val (.int v13), .val (.ref fg), .val (.int ga), .val (.int gb), .val (.int v36), .unset, .unset, .unset, .unset, .unset, .unset, .unset, .unset, .unset, .unset] [(.int (1 : Int32))])) _
          refine XS.goto X31.here hx rfl (pc0 := 129) (pc' := 133) rfl (hb hby at_129) (by decide) (by decide) ?_
          show Steps p.tables e below (T31.setTop (mkF m 133 #[.val (.int p0), .val (.int p1), .val (.int p2), .val (.int p3), .val (.int va), .val (.int vb), .val (.int v5), .val (.int v9), .val (.int v13), .val (.ref fg), .val (.int ga), .val (.int gb), .val (.int v36), .unset, .unset, .unset, .unset, .unset, .unset, .unset, .unset, .unset, .unset] [(.int (1 : Int32))])) _
          rw [hv42]
          exact Steps.refl _
        · rw [if_neg hc41] at hv42
          refine XS.ifYes X31.here hx rfl (pc0 := 125) (pc' := 132) rfl (hb hby at_125) rfl ((if0 _ _).trans (feq hc41).2) (by decide) (by decide) ?_
          show Steps p.tables e below (T31.setTop (mkF m 132 #[.val (.int p0), .val (.int p1), .val (.int p2), .val (.int p3), .val (.int va), .val (.int vb), .val (.int v5), .val (.int v9), .val (.int v13), .val (.ref fg), .val (.int ga), .val (.int gb), .val (.int v36), .unset, .unset, .unset, .unset, .unset, .unset, .unset, .unset, .unset, .unset] [])) _
          refine XS.iconst X31.here hx rfl (hb hby at_132) ?_
          show Steps p.tables e below (T31.setTop (mkF m 133 #[.val (.int p0), .val (.int p1), .val (.int p2), .val (.int p3), .val (.int va), .val (.int vb), .val (.int v5), .val (.int v9), .val (.int v13), .val (.ref fg), .val (.int ga), .val (.int gb), .val (.int v36), .unset, .unset, .unset, .unset, .unset, .unset, .unset, .unset, .unset, .unset] [(.int (0 : Int32))])) _
          rw [hv42]
          exact Steps.refl _
  have q44 : Steps p.tables e below (s₁.setTop (entryFrame m #[(.int p0), (.int p1), (.int p2), (.int p3)] maxLocals)) (T31.setTop (mkF m 135 #[.val (.int p0), .val (.int p1), .val (.int p2), .val (.int p3), .val (.int va), .val (.int vb), .val (.int v5), .val (.int v9), .val (.int v13), .val (.ref fg), .val (.int ga), .val (.int gb), .val (.int v36), .val (.int v42), .unset, .unset, .unset, .unset, .unset, .unset, .unset, .unset, .unset] [])) := q43.trans (by
      show Steps p.tables e below (T31.setTop (mkF m 133 #[.val (.int p0), .val (.int p1), .val (.int p2), .val (.int p3), .val (.int va), .val (.int vb), .val (.int v5), .val (.int v9), .val (.int v13), .val (.ref fg), .val (.int ga), .val (.int gb), .val (.int v36), .unset, .unset, .unset, .unset, .unset, .unset, .unset, .unset, .unset, .unset] [(.int v42)])) _
      refine XS.istore X31.here hx rfl (hb hby at_133) rfl (l' := #[.val (.int p0), .val (.int p1), .val (.int p2), .val (.int p3), .val (.int va), .val (.int vb), .val (.int v5), .val (.int v9), .val (.int v13), .val (.ref fg), .val (.int ga), .val (.int gb), .val (.int v36), .val (.int v42), .unset, .unset, .unset, .unset, .unset, .unset, .unset, .unset, .unset]) rfl ?_
      show Steps p.tables e below (T31.setTop (mkF m 135 #[.val (.int p0), .val (.int p1), .val (.int p2), .val (.int p3), .val (.int va), .val (.int vb), .val (.int v5), .val (.int v9), .val (.int v13), .val (.ref fg), .val (.int ga), .val (.int gb), .val (.int v36), .val (.int v42), .unset, .unset, .unset, .unset, .unset, .unset, .unset, .unset, .unset] [])) _
      exact Steps.refl _)
  obtain ⟨r45, hr45, hM⟩ := Option.bind_eq_some_iff.mp hM
  obtain ⟨T46, L46, h46, X46, e46, N46, Zq46, K46, J46_0, J46_1, ql46⟩ := sg2 hx hZ hw hby hml hown fg aP aS aQ p0 p2 p3 vb v5 v13 ga gb v36 v42  ge_aP ge_aS ge_aQ ne_aP_aS ne_aP_aQ ne_aS_aQ ne_fg_aP ne_fg_aS ne_fg_aQ  v9 va p1 r23.1 r23.2.1 r23.2.2  _ hr45 X31 e31 N31 Z24  Xfg_24 Ffg_parent_24 Ffg_size_24 Ffg_parallelism_24 J24_0 J24_1 J24_2
  have IaS_46 := J24_1.keep K46 (ninS (Ne.symm ne_aP_aS) (ninS ne_aS_aQ nin0))
  have Xfg_46 := Xfg_24.keep K46
  have Ffg_parent_46 := Ffg_parent_24.keep K46 (ninS ne_fg_aP (ninS ne_fg_aQ nin0))
  have Ffg_size_46 := Ffg_size_24.keep K46 (ninS ne_fg_aP (ninS ne_fg_aQ nin0))
  have Ffg_parallelism_46 := Ffg_parallelism_24.keep K46 (ninS ne_fg_aP (ninS ne_fg_aQ nin0))
  have Z46 : n0 ≤ h46.size := Nat.le_trans Z24 K46.1
  have q47 : Steps p.tables e below (s₁.setTop (entryFrame m #[(.int p0), (.int p1), (.int p2), (.int p3)] maxLocals)) (T46.setTop (mkF m 148 #[.val (.int p0), .val (.int p1), .val (.int p2), .val (.int p3), .val (.int va), .val (.int vb), .val (.int v5), .val (.int v9), .val (.int v13), .val (.ref fg), .val (.int ga), .val (.int gb), .val (.int v36), .val (.int v42), .unset, .unset, .unset, .unset, .unset, .unset, .unset, .unset, .unset] [])) := q44.trans ql46
  obtain ⟨r48, hr48, hM⟩ := Option.bind_eq_some_iff.mp hM
  obtain ⟨T49, L49, h49, X49, e49, N49, Zq49, K49, J49_0, J49_1, ql49⟩ := sg3 hx hZ hw hby hml hown fg aP aS aQ p0 p1 p3 va v5 v9 v13 ga gb v36  ge_aP ge_aS ge_aQ ne_aP_aS ne_aP_aQ ne_aS_aQ ne_fg_aP ne_fg_aS ne_fg_aQ  v42 vb p2 r45.1 r23.2.1 r45.2  _ hr48 X46 e46 N46 Z46  Xfg_46 Ffg_parent_46 Ffg_size_46 Ffg_parallelism_46 J46_0 IaS_46 J46_1
  have IaS_49 := IaS_46.keep K49 (ninS (Ne.symm ne_aP_aS) (ninS ne_aS_aQ nin0))
  have Xfg_49 := Xfg_46.keep K49
  have Ffg_parent_49 := Ffg_parent_46.keep K49 (ninS ne_fg_aP (ninS ne_fg_aQ nin0))
  have Ffg_size_49 := Ffg_size_46.keep K49 (ninS ne_fg_aP (ninS ne_fg_aQ nin0))
  have Ffg_parallelism_49 := Ffg_parallelism_46.keep K49 (ninS ne_fg_aP (ninS ne_fg_aQ nin0))
  have Z49 : n0 ≤ h49.size := Nat.le_trans Z46 K49.1
  have q50 : Steps p.tables e below (s₁.setTop (entryFrame m #[(.int p0), (.int p1), (.int p2), (.int p3)] maxLocals)) (T49.setTop (mkF m 161 #[.val (.int p0), .val (.int p1), .val (.int p2), .val (.int p3), .val (.int va), .val (.int vb), .val (.int v5), .val (.int v9), .val (.int v13), .val (.ref fg), .val (.int ga), .val (.int gb), .val (.int v36), .val (.int v42), .unset, .unset, .unset, .unset, .unset, .unset, .unset, .unset, .unset] [])) := q47.trans ql49
  have q51 : Steps p.tables e below (s₁.setTop (entryFrame m #[(.int p0), (.int p1), (.int p2), (.int p3)] maxLocals)) (T49.setTop (mkF m 163 #[.val (.int p0), .val (.int p1), .val (.int p2), .val (.int p3), .val (.int va), .val (.int vb), .val (.int v5), .val (.int v9), .val (.int v13), .val (.ref fg), .val (.int ga), .val (.int gb), .val (.int v36), .val (.int v42), .unset, .unset, .unset, .unset, .unset, .unset, .unset, .unset, .unset] [(.int v9)])) := q50.trans (by
      show Steps p.tables e below (T49.setTop (mkF m 161 #[.val (.int p0), .val (.int p1), .val (.int p2), .val (.int p3), .val (.int va), .val (.int vb), .val (.int v5), .val (.int v9), .val (.int v13), .val (.ref fg), .val (.int ga), .val (.int gb), .val (.int v36), .val (.int v42), .unset, .unset, .unset, .unset, .unset, .unset, .unset, .unset, .unset] [])) _
      refine XS.iload X49.here hx rfl (hb hby at_161) rfl ?_
      show Steps p.tables e below (T49.setTop (mkF m 163 #[.val (.int p0), .val (.int p1), .val (.int p2), .val (.int p3), .val (.int va), .val (.int vb), .val (.int v5), .val (.int v9), .val (.int v13), .val (.ref fg), .val (.int ga), .val (.int gb), .val (.int v36), .val (.int v42), .unset, .unset, .unset, .unset, .unset, .unset, .unset, .unset, .unset] [(.int v9)])) _
      exact Steps.refl _)
  obtain ⟨v55, hv55, hM⟩ := Option.bind_eq_some_iff.mp hM
  have hv55 := (Option.some.inj hv55).symm
  have q56 : Steps p.tables e below (s₁.setTop (entryFrame m #[(.int p0), (.int p1), (.int p2), (.int p3)] maxLocals)) (T49.setTop (mkF m 185 #[.val (.int p0), .val (.int p1), .val (.int p2), .val (.int p3), .val (.int va), .val (.int vb), .val (.int v5), .val (.int v9), .val (.int v13), .val (.ref fg), .val (.int ga), .val (.int gb), .val (.int v36), .val (.int v42), .unset, .unset, .unset, .unset, .unset, .unset, .unset, .unset, .unset] [(.int v55)])) := by
    refine q51.trans ?_
    show Steps p.tables e below (T49.setTop (mkF m 163 #[.val (.int p0), .val (.int p1), .val (.int p2), .val (.int p3), .val (.int va), .val (.int vb), .val (.int v5), .val (.int v9), .val (.int v13), .val (.ref fg), .val (.int ga), .val (.int gb), .val (.int v36), .val (.int v42), .unset, .unset, .unset, .unset, .unset, .unset, .unset, .unset, .unset] [(.int v9)])) _
    by_cases hc52 : v9 = (0 : Int32)
    · rw [if_pos hc52] at hv55
      refine XS.ifYes X49.here hx rfl (pc0 := 163) (pc' := 170) rfl (hb hby at_163) rfl ((if0 _ _).trans (teq hc52).1) (by decide) (by decide) ?_
      show Steps p.tables e below (T49.setTop (mkF m 170 #[.val (.int p0), .val (.int p1), .val (.int p2), .val (.int p3), .val (.int va), .val (.int vb), .val (.int v5), .val (.int v9), .val (.int v13), .val (.ref fg), .val (.int ga), .val (.int gb), .val (.int v36), .val (.int v42), .unset, .unset, .unset, .unset, .unset, .unset, .unset, .unset, .unset] [])) _
      refine XS.iload X49.here hx rfl (hb hby at_170) rfl ?_
      show Steps p.tables e below (T49.setTop (mkF m 172 #[.val (.int p0), .val (.int p1), .val (.int p2), .val (.int p3), .val (.int va), .val (.int vb), .val (.int v5), .val (.int v9), .val (.int v13), .val (.ref fg), .val (.int ga), .val (.int gb), .val (.int v36), .val (.int v42), .unset, .unset, .unset, .unset, .unset, .unset, .unset, .unset, .unset] [(.int v36)])) _
      by_cases hc53 : v36 = (0 : Int32)
      · rw [if_pos hc53] at hv55
        refine XS.ifYes X49.here hx rfl (pc0 := 172) (pc' := 184) rfl (hb hby at_172) rfl ((if0 _ _).trans (teq hc53).1) (by decide) (by decide) ?_
        show Steps p.tables e below (T49.setTop (mkF m 184 #[.val (.int p0), .val (.int p1), .val (.int p2), .val (.int p3), .val (.int va), .val (.int vb), .val (.int v5), .val (.int v9), .val (.int v13), .val (.ref fg), .val (.int ga), .val (.int gb), .val (.int v36), .val (.int v42), .unset, .unset, .unset, .unset, .unset, .unset, .unset, .unset, .unset] [])) _
        refine XS.iconst X49.here hx rfl (hb hby at_184) ?_
        show Steps p.tables e below (T49.setTop (mkF m 185 #[.val (.int p0), .val (.int p1), .val (.int p2), .val (.int p3), .val (.int va), .val (.int vb), .val (.int v5), .val (.int v9), .val (.int v13), .val (.ref fg), .val (.int ga), .val (.int gb), .val (.int v36), .val (.int v42), .unset, .unset, .unset, .unset, .unset, .unset, .unset, .unset, .unset] [(.int (-1 : Int32))])) _
        rw [hv55]
        exact Steps.refl _
      · rw [if_neg hc53] at hv55
        refine XS.ifNo X49.here hx rfl (hb hby at_172) rfl ((if0 _ _).trans (feq hc53).1) ?_
        show Steps p.tables e below (T49.setTop (mkF m 175 #[.val (.int p0), .val (.int p1), .val (.int p2), .val (.int p3), .val (.int va), .val (.int vb), .val (.int v5), .val (.int v9), .val (.int v13), .val (.ref fg), .val (.int ga), .val (.int gb), .val (.int v36), .val (.int v42), .unset, .unset, .unset, .unset, .unset, .unset, .unset, .unset, .unset] [])) _
        refine XS.iload X49.here hx rfl (hb hby at_175) rfl ?_
        show Steps p.tables e below (T49.setTop (mkF m 177 #[.val (.int p0), .val (.int p1), .val (.int p2), .val (.int p3), .val (.int va), .val (.int vb), .val (.int v5), .val (.int v9), .val (.int v13), .val (.ref fg), .val (.int ga), .val (.int gb), .val (.int v36), .val (.int v42), .unset, .unset, .unset, .unset, .unset, .unset, .unset, .unset, .unset] [(.int v42)])) _
        by_cases hc54 : v42 = (0 : Int32)
        · rw [if_pos hc54] at hv55
          refine XS.ifYes X49.here hx rfl (pc0 := 177) (pc' := 184) rfl (hb hby at_177) rfl ((if0 _ _).trans (teq hc54).1) (by decide) (by decide) ?_
          show Steps p.tables e below (T49.setTop (mkF m 184 #[.val (.int p0), .val (.int p1), .val (.int p2), .val (.int p3), .val (.int va), .val (.int vb), .val (.int v5), .val (.int v9), .val (.int v13), .val (.ref fg), .val (.int ga), .val (.int gb), .val (.int v36), .val (.int v42), .unset, .unset, .unset, .unset, .unset, .unset, .unset, .unset, .unset] [])) _
          refine XS.iconst X49.here hx rfl (hb hby at_184) ?_
          show Steps p.tables e below (T49.setTop (mkF m 185 #[.val (.int p0), .val (.int p1), .val (.int p2), .val (.int p3), .val (.int va), .val (.int vb), .val (.int v5), .val (.int v9), .val (.int v13), .val (.ref fg), .val (.int ga), .val (.int gb), .val (.int v36), .val (.int v42), .unset, .unset, .unset, .unset, .unset, .unset, .unset, .unset, .unset] [(.int (-1 : Int32))])) _
          rw [hv55]
          exact Steps.refl _
        · rw [if_neg hc54] at hv55
          refine XS.ifNo X49.here hx rfl (hb hby at_177) rfl ((if0 _ _).trans (feq hc54).1) ?_
          show Steps p.tables e below (T49.setTop (mkF m 180 #[.val (.int p0), .val (.int p1), .val (.int p2), .val (.int p3), .val (.int va), .val (.int vb), .val (.int v5), .val (.int v9), .val (.int v13), .val (.ref fg), .val (.int ga), .val (.int gb), .val (.int v36), .val (.int v42), .unset, .unset, .unset, .unset, .unset, .unset, .unset, .unset, .unset] [])) _
          refine XS.iloadN X49.here hx rfl (hb hby at_180) rfl ?_
          show Steps p.tables e below (T49.setTop (mkF m 181 #[.val (.int p0), .val (.int p1), .val (.int p2), .val (.int p3), .val (.int va), .val (.int vb), .val (.int v5), .val (.int v9), .val (.int v13), .val (.ref fg), .val (.int ga), .val (.int gb), .val (.int v36), .val (.int v42), .unset, .unset, .unset, .unset, .unset, .unset, .unset, .unset, .unset] [(.int p2)])) _
          refine XS.goto X49.here hx rfl (pc0 := 181) (pc' := 185) rfl (hb hby at_181) (by decide) (by decide) ?_
          show Steps p.tables e below (T49.setTop (mkF m 185 #[.val (.int p0), .val (.int p1), .val (.int p2), .val (.int p3), .val (.int va), .val (.int vb), .val (.int v5), .val (.int v9), .val (.int v13), .val (.ref fg), .val (.int ga), .val (.int gb), .val (.int v36), .val (.int v42), .unset, .unset, .unset, .unset, .unset, .unset, .unset, .unset, .unset] [(.int p2)])) _
          rw [hv55]
          exact Steps.refl _
    · rw [if_neg hc52] at hv55
      refine XS.ifNo X49.here hx rfl (hb hby at_163) rfl ((if0 _ _).trans (feq hc52).1) ?_
      show Steps p.tables e below (T49.setTop (mkF m 166 #[.val (.int p0), .val (.int p1), .val (.int p2), .val (.int p3), .val (.int va), .val (.int vb), .val (.int v5), .val (.int v9), .val (.int v13), .val (.ref fg), .val (.int ga), .val (.int gb), .val (.int v36), .val (.int v42), .unset, .unset, .unset, .unset, .unset, .unset, .unset, .unset, .unset] [])) _
      refine XS.iloadN X49.here hx rfl (hb hby at_166) rfl ?_
      show Steps p.tables e below (T49.setTop (mkF m 167 #[.val (.int p0), .val (.int p1), .val (.int p2), .val (.int p3), .val (.int va), .val (.int vb), .val (.int v5), .val (.int v9), .val (.int v13), .val (.ref fg), .val (.int ga), .val (.int gb), .val (.int v36), .val (.int v42), .unset, .unset, .unset, .unset, .unset, .unset, .unset, .unset, .unset] [(.int p1)])) _
      refine XS.goto X49.here hx rfl (pc0 := 167) (pc' := 185) rfl (hb hby at_167) (by decide) (by decide) ?_
      show Steps p.tables e below (T49.setTop (mkF m 185 #[.val (.int p0), .val (.int p1), .val (.int p2), .val (.int p3), .val (.int va), .val (.int vb), .val (.int v5), .val (.int v9), .val (.int v13), .val (.ref fg), .val (.int ga), .val (.int gb), .val (.int v36), .val (.int v42), .unset, .unset, .unset, .unset, .unset, .unset, .unset, .unset, .unset] [(.int p1)])) _
      rw [hv55]
      exact Steps.refl _
  have q57 : Steps p.tables e below (s₁.setTop (entryFrame m #[(.int p0), (.int p1), (.int p2), (.int p3)] maxLocals)) (T49.setTop (mkF m 189 #[.val (.int p0), .val (.int p1), .val (.int p2), .val (.int p3), .val (.int va), .val (.int vb), .val (.int v5), .val (.int v9), .val (.int v13), .val (.ref fg), .val (.int ga), .val (.int gb), .val (.int v36), .val (.int v42), .val (.int v55), .unset, .unset, .unset, .unset, .unset, .unset, .unset, .unset] [(.int v36)])) := q56.trans (by
      show Steps p.tables e below (T49.setTop (mkF m 185 #[.val (.int p0), .val (.int p1), .val (.int p2), .val (.int p3), .val (.int va), .val (.int vb), .val (.int v5), .val (.int v9), .val (.int v13), .val (.ref fg), .val (.int ga), .val (.int gb), .val (.int v36), .val (.int v42), .unset, .unset, .unset, .unset, .unset, .unset, .unset, .unset, .unset] [(.int v55)])) _
      refine XS.istore X49.here hx rfl (hb hby at_185) rfl (l' := #[.val (.int p0), .val (.int p1), .val (.int p2), .val (.int p3), .val (.int va), .val (.int vb), .val (.int v5), .val (.int v9), .val (.int v13), .val (.ref fg), .val (.int ga), .val (.int gb), .val (.int v36), .val (.int v42), .val (.int v55), .unset, .unset, .unset, .unset, .unset, .unset, .unset, .unset]) rfl ?_
      show Steps p.tables e below (T49.setTop (mkF m 187 #[.val (.int p0), .val (.int p1), .val (.int p2), .val (.int p3), .val (.int va), .val (.int vb), .val (.int v5), .val (.int v9), .val (.int v13), .val (.ref fg), .val (.int ga), .val (.int gb), .val (.int v36), .val (.int v42), .val (.int v55), .unset, .unset, .unset, .unset, .unset, .unset, .unset, .unset] [])) _
      refine XS.iload X49.here hx rfl (hb hby at_187) rfl ?_
      show Steps p.tables e below (T49.setTop (mkF m 189 #[.val (.int p0), .val (.int p1), .val (.int p2), .val (.int p3), .val (.int va), .val (.int vb), .val (.int v5), .val (.int v9), .val (.int v13), .val (.ref fg), .val (.int ga), .val (.int gb), .val (.int v36), .val (.int v42), .val (.int v55), .unset, .unset, .unset, .unset, .unset, .unset, .unset, .unset] [(.int v36)])) _
      exact Steps.refl _)
  obtain ⟨v60, hv60, hM⟩ := Option.bind_eq_some_iff.mp hM
  have hv60 := (Option.some.inj hv60).symm
  have q61 : Steps p.tables e below (s₁.setTop (entryFrame m #[(.int p0), (.int p1), (.int p2), (.int p3)] maxLocals)) (T49.setTop (mkF m 207 #[.val (.int p0), .val (.int p1), .val (.int p2), .val (.int p3), .val (.int va), .val (.int vb), .val (.int v5), .val (.int v9), .val (.int v13), .val (.ref fg), .val (.int ga), .val (.int gb), .val (.int v36), .val (.int v42), .val (.int v55), .unset, .unset, .unset, .unset, .unset, .unset, .unset, .unset] [(.int v60)])) := by
    refine q57.trans ?_
    show Steps p.tables e below (T49.setTop (mkF m 189 #[.val (.int p0), .val (.int p1), .val (.int p2), .val (.int p3), .val (.int va), .val (.int vb), .val (.int v5), .val (.int v9), .val (.int v13), .val (.ref fg), .val (.int ga), .val (.int gb), .val (.int v36), .val (.int v42), .val (.int v55), .unset, .unset, .unset, .unset, .unset, .unset, .unset, .unset] [(.int v36)])) _
    by_cases hc58 : v36 = (0 : Int32)
    · rw [if_pos hc58] at hv60
      refine XS.ifYes X49.here hx rfl (pc0 := 189) (pc' := 197) rfl (hb hby at_189) rfl ((if0 _ _).trans (teq hc58).1) (by decide) (by decide) ?_
      show Steps p.tables e below (T49.setTop (mkF m 197 #[.val (.int p0), .val (.int p1), .val (.int p2), .val (.int p3), .val (.int va), .val (.int vb), .val (.int v5), .val (.int v9), .val (.int v13), .val (.ref fg), .val (.int ga), .val (.int gb), .val (.int v36), .val (.int v42), .val (.int v55), .unset, .unset, .unset, .unset, .unset, .unset, .unset, .unset] [])) _
      refine XS.iload X49.here hx rfl (hb hby at_197) rfl ?_
      show Steps p.tables e below (T49.setTop (mkF m 199 #[.val (.int p0), .val (.int p1), .val (.int p2), .val (.int p3), .val (.int va), .val (.int vb), .val (.int v5), .val (.int v9), .val (.int v13), .val (.ref fg), .val (.int ga), .val (.int gb), .val (.int v36), .val (.int v42), .val (.int v55), .unset, .unset, .unset, .unset, .unset, .unset, .unset, .unset] [(.int v42)])) _
      by_cases hc59 : v42 = (0 : Int32)
      · rw [if_pos hc59] at hv60
        refine XS.ifYes X49.here hx rfl (pc0 := 199) (pc' := 206) rfl (hb hby at_199) rfl ((if0 _ _).trans (teq hc59).1) (by decide) (by decide) ?_
        show Steps p.tables e below (T49.setTop (mkF m 206 #[.val (.int p0), .val (.int p1), .val (.int p2), .val (.int p3), .val (.int va), .val (.int vb), .val (.int v5), .val (.int v9), .val (.int v13), .val (.ref fg), .val (.int ga), .val (.int gb), .val (.int v36), .val (.int v42), .val (.int v55), .unset, .unset, .unset, .unset, .unset, .unset, .unset, .unset] [])) _
        refine XS.iconst X49.here hx rfl (hb hby at_206) ?_
        show Steps p.tables e below (T49.setTop (mkF m 207 #[.val (.int p0), .val (.int p1), .val (.int p2), .val (.int p3), .val (.int va), .val (.int vb), .val (.int v5), .val (.int v9), .val (.int v13), .val (.ref fg), .val (.int ga), .val (.int gb), .val (.int v36), .val (.int v42), .val (.int v55), .unset, .unset, .unset, .unset, .unset, .unset, .unset, .unset] [(.int (-1 : Int32))])) _
        rw [hv60]
        exact Steps.refl _
      · rw [if_neg hc59] at hv60
        refine XS.ifNo X49.here hx rfl (hb hby at_199) rfl ((if0 _ _).trans (feq hc59).1) ?_
        show Steps p.tables e below (T49.setTop (mkF m 202 #[.val (.int p0), .val (.int p1), .val (.int p2), .val (.int p3), .val (.int va), .val (.int vb), .val (.int v5), .val (.int v9), .val (.int v13), .val (.ref fg), .val (.int ga), .val (.int gb), .val (.int v36), .val (.int v42), .val (.int v55), .unset, .unset, .unset, .unset, .unset, .unset, .unset, .unset] [])) _
        refine XS.iloadN X49.here hx rfl (hb hby at_202) rfl ?_
        show Steps p.tables e below (T49.setTop (mkF m 203 #[.val (.int p0), .val (.int p1), .val (.int p2), .val (.int p3), .val (.int va), .val (.int vb), .val (.int v5), .val (.int v9), .val (.int v13), .val (.ref fg), .val (.int ga), .val (.int gb), .val (.int v36), .val (.int v42), .val (.int v55), .unset, .unset, .unset, .unset, .unset, .unset, .unset, .unset] [(.int p2)])) _
        refine XS.goto X49.here hx rfl (pc0 := 203) (pc' := 207) rfl (hb hby at_203) (by decide) (by decide) ?_
        show Steps p.tables e below (T49.setTop (mkF m 207 #[.val (.int p0), .val (.int p1), .val (.int p2), .val (.int p3), .val (.int va), .val (.int vb), .val (.int v5), .val (.int v9), .val (.int v13), .val (.ref fg), .val (.int ga), .val (.int gb), .val (.int v36), .val (.int v42), .val (.int v55), .unset, .unset, .unset, .unset, .unset, .unset, .unset, .unset] [(.int p2)])) _
        rw [hv60]
        exact Steps.refl _
    · rw [if_neg hc58] at hv60
      refine XS.ifNo X49.here hx rfl (hb hby at_189) rfl ((if0 _ _).trans (feq hc58).1) ?_
      show Steps p.tables e below (T49.setTop (mkF m 192 #[.val (.int p0), .val (.int p1), .val (.int p2), .val (.int p3), .val (.int va), .val (.int vb), .val (.int v5), .val (.int v9), .val (.int v13), .val (.ref fg), .val (.int ga), .val (.int gb), .val (.int v36), .val (.int v42), .val (.int v55), .unset, .unset, .unset, .unset, .unset, .unset, .unset, .unset] [])) _
      refine XS.iload X49.here hx rfl (hb hby at_192) rfl ?_
      show Steps p.tables e below (T49.setTop (mkF m 194 #[.val (.int p0), .val (.int p1), .val (.int p2), .val (.int p3), .val (.int va), .val (.int vb), .val (.int v5), .val (.int v9), .val (.int v13), .val (.ref fg), .val (.int ga), .val (.int gb), .val (.int v36), .val (.int v42), .val (.int v55), .unset, .unset, .unset, .unset, .unset, .unset, .unset, .unset] [(.int v55)])) _
      refine XS.goto X49.here hx rfl (pc0 := 194) (pc' := 207) rfl (hb hby at_194) (by decide) (by decide) ?_
      show Steps p.tables e below (T49.setTop (mkF m 207 #[.val (.int p0), .val (.int p1), .val (.int p2), .val (.int p3), .val (.int va), .val (.int vb), .val (.int v5), .val (.int v9), .val (.int v13), .val (.ref fg), .val (.int ga), .val (.int gb), .val (.int v36), .val (.int v42), .val (.int v55), .unset, .unset, .unset, .unset, .unset, .unset, .unset, .unset] [(.int v55)])) _
      rw [hv60]
      exact Steps.refl _
  have q62 : Steps p.tables e below (s₁.setTop (entryFrame m #[(.int p0), (.int p1), (.int p2), (.int p3)] maxLocals)) (T49.setTop (mkF m 212 #[.val (.int p0), .val (.int p1), .val (.int p2), .val (.int p3), .val (.int va), .val (.int vb), .val (.int v5), .val (.int v9), .val (.int v13), .val (.ref fg), .val (.int ga), .val (.int gb), .val (.int v36), .val (.int v42), .val (.int v55), .val (.int v60), .unset, .unset, .unset, .unset, .unset, .unset, .unset] [(.int (-1 : Int32)), (.int v55)])) := q61.trans (by
      show Steps p.tables e below (T49.setTop (mkF m 207 #[.val (.int p0), .val (.int p1), .val (.int p2), .val (.int p3), .val (.int va), .val (.int vb), .val (.int v5), .val (.int v9), .val (.int v13), .val (.ref fg), .val (.int ga), .val (.int gb), .val (.int v36), .val (.int v42), .val (.int v55), .unset, .unset, .unset, .unset, .unset, .unset, .unset, .unset] [(.int v60)])) _
      refine XS.istore X49.here hx rfl (hb hby at_207) rfl (l' := #[.val (.int p0), .val (.int p1), .val (.int p2), .val (.int p3), .val (.int va), .val (.int vb), .val (.int v5), .val (.int v9), .val (.int v13), .val (.ref fg), .val (.int ga), .val (.int gb), .val (.int v36), .val (.int v42), .val (.int v55), .val (.int v60), .unset, .unset, .unset, .unset, .unset, .unset, .unset]) rfl ?_
      show Steps p.tables e below (T49.setTop (mkF m 209 #[.val (.int p0), .val (.int p1), .val (.int p2), .val (.int p3), .val (.int va), .val (.int vb), .val (.int v5), .val (.int v9), .val (.int v13), .val (.ref fg), .val (.int ga), .val (.int gb), .val (.int v36), .val (.int v42), .val (.int v55), .val (.int v60), .unset, .unset, .unset, .unset, .unset, .unset, .unset] [])) _
      refine XS.iload X49.here hx rfl (hb hby at_209) rfl ?_
      show Steps p.tables e below (T49.setTop (mkF m 211 #[.val (.int p0), .val (.int p1), .val (.int p2), .val (.int p3), .val (.int va), .val (.int vb), .val (.int v5), .val (.int v9), .val (.int v13), .val (.ref fg), .val (.int ga), .val (.int gb), .val (.int v36), .val (.int v42), .val (.int v55), .val (.int v60), .unset, .unset, .unset, .unset, .unset, .unset, .unset] [(.int v55)])) _
      refine XS.iconst X49.here hx rfl (hb hby at_211) ?_
      show Steps p.tables e below (T49.setTop (mkF m 212 #[.val (.int p0), .val (.int p1), .val (.int p2), .val (.int p3), .val (.int va), .val (.int vb), .val (.int v5), .val (.int v9), .val (.int v13), .val (.ref fg), .val (.int ga), .val (.int gb), .val (.int v36), .val (.int v42), .val (.int v55), .val (.int v60), .unset, .unset, .unset, .unset, .unset, .unset, .unset] [(.int (-1 : Int32)), (.int v55)])) _
      exact Steps.refl _)
  obtain ⟨v66, hv66, hM⟩ := Option.bind_eq_some_iff.mp hM
  have hv66 := (Option.some.inj hv66).symm
  have q67 : Steps p.tables e below (s₁.setTop (entryFrame m #[(.int p0), (.int p1), (.int p2), (.int p3)] maxLocals)) (T49.setTop (mkF m 233 #[.val (.int p0), .val (.int p1), .val (.int p2), .val (.int p3), .val (.int va), .val (.int vb), .val (.int v5), .val (.int v9), .val (.int v13), .val (.ref fg), .val (.int ga), .val (.int gb), .val (.int v36), .val (.int v42), .val (.int v55), .val (.int v60), .unset, .unset, .unset, .unset, .unset, .unset, .unset] [(.int v66)])) := by
    refine q62.trans ?_
    show Steps p.tables e below (T49.setTop (mkF m 212 #[.val (.int p0), .val (.int p1), .val (.int p2), .val (.int p3), .val (.int va), .val (.int vb), .val (.int v5), .val (.int v9), .val (.int v13), .val (.ref fg), .val (.int ga), .val (.int gb), .val (.int v36), .val (.int v42), .val (.int v55), .val (.int v60), .unset, .unset, .unset, .unset, .unset, .unset, .unset] [(.int (-1 : Int32)), (.int v55)])) _
    by_cases hc63 : v55 = (-1 : Int32)
    · rw [if_pos hc63] at hv66
      refine XS.icmpYes X49.here hx rfl (pc0 := 212) (pc' := 232) rfl (hb hby at_212) rfl (teq hc63).1 (by decide) (by decide) ?_
      show Steps p.tables e below (T49.setTop (mkF m 232 #[.val (.int p0), .val (.int p1), .val (.int p2), .val (.int p3), .val (.int va), .val (.int vb), .val (.int v5), .val (.int v9), .val (.int v13), .val (.ref fg), .val (.int ga), .val (.int gb), .val (.int v36), .val (.int v42), .val (.int v55), .val (.int v60), .unset, .unset, .unset, .unset, .unset, .unset, .unset] [])) _
      refine XS.iconst X49.here hx rfl (hb hby at_232) ?_
      show Steps p.tables e below (T49.setTop (mkF m 233 #[.val (.int p0), .val (.int p1), .val (.int p2), .val (.int p3), .val (.int va), .val (.int vb), .val (.int v5), .val (.int v9), .val (.int v13), .val (.ref fg), .val (.int ga), .val (.int gb), .val (.int v36), .val (.int v42), .val (.int v55), .val (.int v60), .unset, .unset, .unset, .unset, .unset, .unset, .unset] [(.int (0 : Int32))])) _
      rw [hv66]
      exact Steps.refl _
    · rw [if_neg hc63] at hv66
      refine XS.icmpNo X49.here hx rfl (hb hby at_212) rfl (feq hc63).1 ?_
      show Steps p.tables e below (T49.setTop (mkF m 215 #[.val (.int p0), .val (.int p1), .val (.int p2), .val (.int p3), .val (.int va), .val (.int vb), .val (.int v5), .val (.int v9), .val (.int v13), .val (.ref fg), .val (.int ga), .val (.int gb), .val (.int v36), .val (.int v42), .val (.int v55), .val (.int v60), .unset, .unset, .unset, .unset, .unset, .unset, .unset] [])) _
      refine XS.iload X49.here hx rfl (hb hby at_215) rfl ?_
      show Steps p.tables e below (T49.setTop (mkF m 217 #[.val (.int p0), .val (.int p1), .val (.int p2), .val (.int p3), .val (.int va), .val (.int vb), .val (.int v5), .val (.int v9), .val (.int v13), .val (.ref fg), .val (.int ga), .val (.int gb), .val (.int v36), .val (.int v42), .val (.int v55), .val (.int v60), .unset, .unset, .unset, .unset, .unset, .unset, .unset] [(.int v60)])) _
      refine XS.iconst X49.here hx rfl (hb hby at_217) ?_
      show Steps p.tables e below (T49.setTop (mkF m 218 #[.val (.int p0), .val (.int p1), .val (.int p2), .val (.int p3), .val (.int va), .val (.int vb), .val (.int v5), .val (.int v9), .val (.int v13), .val (.ref fg), .val (.int ga), .val (.int gb), .val (.int v36), .val (.int v42), .val (.int v55), .val (.int v60), .unset, .unset, .unset, .unset, .unset, .unset, .unset] [(.int (-1 : Int32)), (.int v60)])) _
      by_cases hc64 : v60 = (-1 : Int32)
      · rw [if_pos hc64] at hv66
        refine XS.icmpYes X49.here hx rfl (pc0 := 218) (pc' := 232) rfl (hb hby at_218) rfl (teq hc64).1 (by decide) (by decide) ?_
        show Steps p.tables e below (T49.setTop (mkF m 232 #[.val (.int p0), .val (.int p1), .val (.int p2), .val (.int p3), .val (.int va), .val (.int vb), .val (.int v5), .val (.int v9), .val (.int v13), .val (.ref fg), .val (.int ga), .val (.int gb), .val (.int v36), .val (.int v42), .val (.int v55), .val (.int v60), .unset, .unset, .unset, .unset, .unset, .unset, .unset] [])) _
        refine XS.iconst X49.here hx rfl (hb hby at_232) ?_
        show Steps p.tables e below (T49.setTop (mkF m 233 #[.val (.int p0), .val (.int p1), .val (.int p2), .val (.int p3), .val (.int va), .val (.int vb), .val (.int v5), .val (.int v9), .val (.int v13), .val (.ref fg), .val (.int ga), .val (.int gb), .val (.int v36), .val (.int v42), .val (.int v55), .val (.int v60), .unset, .unset, .unset, .unset, .unset, .unset, .unset] [(.int (0 : Int32))])) _
        rw [hv66]
        exact Steps.refl _
      · rw [if_neg hc64] at hv66
        refine XS.icmpNo X49.here hx rfl (hb hby at_218) rfl (feq hc64).1 ?_
        show Steps p.tables e below (T49.setTop (mkF m 221 #[.val (.int p0), .val (.int p1), .val (.int p2), .val (.int p3), .val (.int va), .val (.int vb), .val (.int v5), .val (.int v9), .val (.int v13), .val (.ref fg), .val (.int ga), .val (.int gb), .val (.int v36), .val (.int v42), .val (.int v55), .val (.int v60), .unset, .unset, .unset, .unset, .unset, .unset, .unset] [])) _
        refine XS.iload X49.here hx rfl (hb hby at_221) rfl ?_
        show Steps p.tables e below (T49.setTop (mkF m 223 #[.val (.int p0), .val (.int p1), .val (.int p2), .val (.int p3), .val (.int va), .val (.int vb), .val (.int v5), .val (.int v9), .val (.int v13), .val (.ref fg), .val (.int ga), .val (.int gb), .val (.int v36), .val (.int v42), .val (.int v55), .val (.int v60), .unset, .unset, .unset, .unset, .unset, .unset, .unset] [(.int v55)])) _
        refine XS.iload X49.here hx rfl (hb hby at_223) rfl ?_
        show Steps p.tables e below (T49.setTop (mkF m 225 #[.val (.int p0), .val (.int p1), .val (.int p2), .val (.int p3), .val (.int va), .val (.int vb), .val (.int v5), .val (.int v9), .val (.int v13), .val (.ref fg), .val (.int ga), .val (.int gb), .val (.int v36), .val (.int v42), .val (.int v55), .val (.int v60), .unset, .unset, .unset, .unset, .unset, .unset, .unset] [(.int v60), (.int v55)])) _
        by_cases hc65 : v55 = v60
        · rw [if_pos hc65] at hv66
          refine XS.icmpYes X49.here hx rfl (pc0 := 225) (pc' := 232) rfl (hb hby at_225) rfl (teq hc65).1 (by decide) (by decide) ?_
          show Steps p.tables e below (T49.setTop (mkF m 232 #[.val (.int p0), .val (.int p1), .val (.int p2), .val (.int p3), .val (.int va), .val (.int vb), .val (.int v5), .val (.int v9), .val (.int v13), .val (.ref fg), .val (.int ga), .val (.int gb), .val (.int v36), .val (.int v42), .val (.int v55), .val (.int v60), .unset, .unset, .unset, .unset, .unset, .unset, .unset] [])) _
          refine XS.iconst X49.here hx rfl (hb hby at_232) ?_
          show Steps p.tables e below (T49.setTop (mkF m 233 #[.val (.int p0), .val (.int p1), .val (.int p2), .val (.int p3), .val (.int va), .val (.int vb), .val (.int v5), .val (.int v9), .val (.int v13), .val (.ref fg), .val (.int ga), .val (.int gb), .val (.int v36), .val (.int v42), .val (.int v55), .val (.int v60), .unset, .unset, .unset, .unset, .unset, .unset, .unset] [(.int (0 : Int32))])) _
          rw [hv66]
          exact Steps.refl _
        · rw [if_neg hc65] at hv66
          refine XS.icmpNo X49.here hx rfl (hb hby at_225) rfl (feq hc65).1 ?_
          show Steps p.tables e below (T49.setTop (mkF m 228 #[.val (.int p0), .val (.int p1), .val (.int p2), .val (.int p3), .val (.int va), .val (.int vb), .val (.int v5), .val (.int v9), .val (.int v13), .val (.ref fg), .val (.int ga), .val (.int gb), .val (.int v36), .val (.int v42), .val (.int v55), .val (.int v60), .unset, .unset, .unset, .unset, .unset, .unset, .unset] [])) _
          refine XS.iconst X49.here hx rfl (hb hby at_228) ?_
          show Steps p.tables e below (T49.setTop (mkF m 229 #[.val (.int p0), .val (.int p1), .val (.int p2), .val (.int p3), .val (.int va), .val (.int vb), .val (.int v5), .val (.int v9), .val (.int v13), .val (.ref fg), .val (.int ga), .val (.int gb), .val (.int v36), .val (.int v42), .val (.int v55), .val (.int v60), .unset, .unset, .unset, .unset, .unset, .unset, .unset] [(.int (1 : Int32))])) _
          refine XS.goto X49.here hx rfl (pc0 := 229) (pc' := 233) rfl (hb hby at_229) (by decide) (by decide) ?_
          show Steps p.tables e below (T49.setTop (mkF m 233 #[.val (.int p0), .val (.int p1), .val (.int p2), .val (.int p3), .val (.int va), .val (.int vb), .val (.int v5), .val (.int v9), .val (.int v13), .val (.ref fg), .val (.int ga), .val (.int gb), .val (.int v36), .val (.int v42), .val (.int v55), .val (.int v60), .unset, .unset, .unset, .unset, .unset, .unset, .unset] [(.int (1 : Int32))])) _
          rw [hv66]
          exact Steps.refl _
  have q68 : Steps p.tables e below (s₁.setTop (entryFrame m #[(.int p0), (.int p1), (.int p2), (.int p3)] maxLocals)) (T49.setTop (mkF m 241 #[.val (.int p0), .val (.int p1), .val (.int p2), .val (.int p3), .val (.int va), .val (.int vb), .val (.int v5), .val (.int v9), .val (.int v13), .val (.ref fg), .val (.int ga), .val (.int gb), .val (.int v36), .val (.int v42), .val (.int v55), .val (.int v60), .val (.int v66), .unset, .unset, .unset, .unset, .unset, .unset] [(.int vb), (.int va), (.ref fg)])) := q67.trans (by
      show Steps p.tables e below (T49.setTop (mkF m 233 #[.val (.int p0), .val (.int p1), .val (.int p2), .val (.int p3), .val (.int va), .val (.int vb), .val (.int v5), .val (.int v9), .val (.int v13), .val (.ref fg), .val (.int ga), .val (.int gb), .val (.int v36), .val (.int v42), .val (.int v55), .val (.int v60), .unset, .unset, .unset, .unset, .unset, .unset, .unset] [(.int v66)])) _
      refine XS.istore X49.here hx rfl (hb hby at_233) rfl (l' := #[.val (.int p0), .val (.int p1), .val (.int p2), .val (.int p3), .val (.int va), .val (.int vb), .val (.int v5), .val (.int v9), .val (.int v13), .val (.ref fg), .val (.int ga), .val (.int gb), .val (.int v36), .val (.int v42), .val (.int v55), .val (.int v60), .val (.int v66), .unset, .unset, .unset, .unset, .unset, .unset]) rfl ?_
      show Steps p.tables e below (T49.setTop (mkF m 235 #[.val (.int p0), .val (.int p1), .val (.int p2), .val (.int p3), .val (.int va), .val (.int vb), .val (.int v5), .val (.int v9), .val (.int v13), .val (.ref fg), .val (.int ga), .val (.int gb), .val (.int v36), .val (.int v42), .val (.int v55), .val (.int v60), .val (.int v66), .unset, .unset, .unset, .unset, .unset, .unset] [])) _
      refine XS.aload X49.here hx rfl (hb hby at_235) rfl rfl ?_
      show Steps p.tables e below (T49.setTop (mkF m 237 #[.val (.int p0), .val (.int p1), .val (.int p2), .val (.int p3), .val (.int va), .val (.int vb), .val (.int v5), .val (.int v9), .val (.int v13), .val (.ref fg), .val (.int ga), .val (.int gb), .val (.int v36), .val (.int v42), .val (.int v55), .val (.int v60), .val (.int v66), .unset, .unset, .unset, .unset, .unset, .unset] [(.ref fg)])) _
      refine XS.iload X49.here hx rfl (hb hby at_237) rfl ?_
      show Steps p.tables e below (T49.setTop (mkF m 239 #[.val (.int p0), .val (.int p1), .val (.int p2), .val (.int p3), .val (.int va), .val (.int vb), .val (.int v5), .val (.int v9), .val (.int v13), .val (.ref fg), .val (.int ga), .val (.int gb), .val (.int v36), .val (.int v42), .val (.int v55), .val (.int v60), .val (.int v66), .unset, .unset, .unset, .unset, .unset, .unset] [(.int va), (.ref fg)])) _
      refine XS.iload X49.here hx rfl (hb hby at_239) rfl ?_
      show Steps p.tables e below (T49.setTop (mkF m 241 #[.val (.int p0), .val (.int p1), .val (.int p2), .val (.int p3), .val (.int va), .val (.int vb), .val (.int v5), .val (.int v9), .val (.int v13), .val (.ref fg), .val (.int ga), .val (.int gb), .val (.int v36), .val (.int v42), .val (.int v55), .val (.int v60), .val (.int v66), .unset, .unset, .unset, .unset, .unset, .unset] [(.int vb), (.int va), (.ref fg)])) _
      exact Steps.refl _)
  obtain ⟨r69, hr69, hM⟩ := Option.bind_eq_some_iff.mp hM
  obtain ⟨cq70, kq70, q70a, q70b, q70c⟩ := isOf hZ e49 Xfg_49
  obtain ⟨_, _, ⟨T70, L70, k70, n70⟩, -, X70, ⟨Lc70, hQ70, l70, y70, z70⟩, st70⟩ := X49.virtualBack hx (y := (⟨"com/example/tideplan/tideplan/planner/ForwardGroups", "join", "(II)Z"⟩ : MethodName)) (z := (⟨"com/example/tideplan/tideplan/planner/ForwardGroups", "join", "(II)Z"⟩ : MethodName)) hown (mvT hZ (hw _ (List.mem_of_getElem? (i := 20) rfl))) (mvT hZ (hw _ (List.mem_of_getElem? (i := 21) rfl))) (notFace_of_selects (args := #[]) (mvT hZ (hw _ (List.mem_of_getElem? (i := 23) rfl)))) (mvT hZ (hw _ (List.mem_of_getElem? (i := 23) rfl))) (mvT hZ (hw _ (List.mem_of_getElem? (i := 22) rfl))) (by decide) (backOf (W := 0) (rmJ l Z a0 hw [] fg va vb aP aS aQ r48.1 r23.2.1 r48.2 r69 h49 n0 Z49 Xfg_49 Ffg_parent_49 Ffg_size_49 Ffg_parallelism_49 J49_0 IaS_49 J49_1 ge_aP ge_aS ge_aQ ne_aP_aS ne_aP_aQ ne_aS_aQ ne_fg_aP ne_fg_aS ne_fg_aQ hr69) hZ (hw _ (List.mem_of_getElem? (i := 24) rfl)) (hw _ (List.mem_of_getElem? (i := 2) rfl)) (by decide) (by decide)) q70a q70c (g := (mkF m 241 #[.val (.int p0), .val (.int p1), .val (.int p2), .val (.int p3), .val (.int va), .val (.int vb), .val (.int v5), .val (.int v9), .val (.int v13), .val (.ref fg), .val (.int ga), .val (.int gb), .val (.int v36), .val (.int v42), .val (.int v55), .val (.int v60), .val (.int v66), .unset, .unset, .unset, .unset, .unset, .unset] [(.int vb), (.int va), (.ref fg)])) rfl (by rw [hml]; rfl) (Steps.refl _) (argsL := [(.int va), (.int vb)]) (rest := []) (lenOf pd_2 rfl) rfl (by show 2 * 0 + _ ≤ _; exact Nat.le_of_eq rfl) (hb hby at_241) (fun _ _ => ⟨rfl, e49, (by decide : 4 + 0 ≤ _), (by decide : 15 + 0 ≤ _)⟩)
  dsimp only [Pt.U, Pt.locs, Pt.cells, Pt.slots] at X70 l70 y70 z70 st70 hQ70
  subst l70 y70 z70
  obtain ⟨rfl, N70q, K70, J70_0, J70_1, J70_2⟩ := hQ70
  have N70 := Fr.app N49 N70q
  have Xfg_70 := Xfg_49.keep K70
  have Ffg_parent_70 := Ffg_parent_49.keep K70 (ninS ne_fg_aP (ninS ne_fg_aS (ninS ne_fg_aQ nin0)))
  have Ffg_size_70 := Ffg_size_49.keep K70 (ninS ne_fg_aP (ninS ne_fg_aS (ninS ne_fg_aQ nin0)))
  have Ffg_parallelism_70 := Ffg_parallelism_49.keep K70 (ninS ne_fg_aP (ninS ne_fg_aS (ninS ne_fg_aQ nin0)))
  have Z70 : n0 ≤ T70.heap.size := Nat.le_trans Z49 K70.1
  have q71 : Steps p.tables e below (s₁.setTop (entryFrame m #[(.int p0), (.int p1), (.int p2), (.int p3)] maxLocals)) (T70.setTop (mkF m 244 #[.val (.int p0), .val (.int p1), .val (.int p2), .val (.int p3), .val (.int va), .val (.int vb), .val (.int v5), .val (.int v9), .val (.int v13), .val (.ref fg), .val (.int ga), .val (.int gb), .val (.int v36), .val (.int v42), .val (.int v55), .val (.int v60), .val (.int v66), .unset, .unset, .unset, .unset, .unset, .unset] [(.int r69.1)])) := q68.trans (st70)
  have q72 : Steps p.tables e below (s₁.setTop (entryFrame m #[(.int p0), (.int p1), (.int p2), (.int p3)] maxLocals)) (T70.setTop (mkF m 250 #[.val (.int p0), .val (.int p1), .val (.int p2), .val (.int p3), .val (.int va), .val (.int vb), .val (.int v5), .val (.int v9), .val (.int v13), .val (.ref fg), .val (.int ga), .val (.int gb), .val (.int v36), .val (.int v42), .val (.int v55), .val (.int v60), .val (.int v66), .val (.int r69.1), .unset, .unset, .unset, .unset, .unset] [(.int v66), (.int r69.1)])) := q71.trans (by
      show Steps p.tables e below (T70.setTop (mkF m 244 #[.val (.int p0), .val (.int p1), .val (.int p2), .val (.int p3), .val (.int va), .val (.int vb), .val (.int v5), .val (.int v9), .val (.int v13), .val (.ref fg), .val (.int ga), .val (.int gb), .val (.int v36), .val (.int v42), .val (.int v55), .val (.int v60), .val (.int v66), .unset, .unset, .unset, .unset, .unset, .unset] [(.int r69.1)])) _
      refine XS.istore X70.here hx rfl (hb hby at_244) rfl (l' := #[.val (.int p0), .val (.int p1), .val (.int p2), .val (.int p3), .val (.int va), .val (.int vb), .val (.int v5), .val (.int v9), .val (.int v13), .val (.ref fg), .val (.int ga), .val (.int gb), .val (.int v36), .val (.int v42), .val (.int v55), .val (.int v60), .val (.int v66), .val (.int r69.1), .unset, .unset, .unset, .unset, .unset]) rfl ?_
      show Steps p.tables e below (T70.setTop (mkF m 246 #[.val (.int p0), .val (.int p1), .val (.int p2), .val (.int p3), .val (.int va), .val (.int vb), .val (.int v5), .val (.int v9), .val (.int v13), .val (.ref fg), .val (.int ga), .val (.int gb), .val (.int v36), .val (.int v42), .val (.int v55), .val (.int v60), .val (.int v66), .val (.int r69.1), .unset, .unset, .unset, .unset, .unset] [])) _
      refine XS.iload X70.here hx rfl (hb hby at_246) rfl ?_
      show Steps p.tables e below (T70.setTop (mkF m 248 #[.val (.int p0), .val (.int p1), .val (.int p2), .val (.int p3), .val (.int va), .val (.int vb), .val (.int v5), .val (.int v9), .val (.int v13), .val (.ref fg), .val (.int ga), .val (.int gb), .val (.int v36), .val (.int v42), .val (.int v55), .val (.int v60), .val (.int v66), .val (.int r69.1), .unset, .unset, .unset, .unset, .unset] [(.int r69.1)])) _
      refine XS.iload X70.here hx rfl (hb hby at_248) rfl ?_
      show Steps p.tables e below (T70.setTop (mkF m 250 #[.val (.int p0), .val (.int p1), .val (.int p2), .val (.int p3), .val (.int va), .val (.int vb), .val (.int v5), .val (.int v9), .val (.int v13), .val (.ref fg), .val (.int ga), .val (.int gb), .val (.int v36), .val (.int v42), .val (.int v55), .val (.int v60), .val (.int v66), .val (.int r69.1), .unset, .unset, .unset, .unset, .unset] [(.int v66), (.int r69.1)])) _
      exact Steps.refl _)
  by_cases hc73 : r69.1 = v66
  · rw [if_pos hc73] at hM
    have q74 : Steps p.tables e below (s₁.setTop (entryFrame m #[(.int p0), (.int p1), (.int p2), (.int p3)] maxLocals)) (T70.setTop (mkF m 253 #[.val (.int p0), .val (.int p1), .val (.int p2), .val (.int p3), .val (.int va), .val (.int vb), .val (.int v5), .val (.int v9), .val (.int v13), .val (.ref fg), .val (.int ga), .val (.int gb), .val (.int v36), .val (.int v42), .val (.int v55), .val (.int v60), .val (.int v66), .val (.int r69.1), .unset, .unset, .unset, .unset, .unset] [])) := q72.trans (by
        show Steps p.tables e below (T70.setTop (mkF m 250 #[.val (.int p0), .val (.int p1), .val (.int p2), .val (.int p3), .val (.int va), .val (.int vb), .val (.int v5), .val (.int v9), .val (.int v13), .val (.ref fg), .val (.int ga), .val (.int gb), .val (.int v36), .val (.int v42), .val (.int v55), .val (.int v60), .val (.int v66), .val (.int r69.1), .unset, .unset, .unset, .unset, .unset] [(.int v66), (.int r69.1)])) _
        refine XS.icmpNo X70.here hx rfl (hb hby at_250) rfl (teq hc73).2 ?_
        show Steps p.tables e below (T70.setTop (mkF m 253 #[.val (.int p0), .val (.int p1), .val (.int p2), .val (.int p3), .val (.int va), .val (.int vb), .val (.int v5), .val (.int v9), .val (.int v13), .val (.ref fg), .val (.int ga), .val (.int gb), .val (.int v36), .val (.int v42), .val (.int v55), .val (.int v60), .val (.int v66), .val (.int r69.1), .unset, .unset, .unset, .unset, .unset] [])) _
        exact Steps.refl _)
    cases hM
  · rw [if_neg hc73] at hM
    have q75 : Steps p.tables e below (s₁.setTop (entryFrame m #[(.int p0), (.int p1), (.int p2), (.int p3)] maxLocals)) (T70.setTop (mkF m 255 #[.val (.int p0), .val (.int p1), .val (.int p2), .val (.int p3), .val (.int va), .val (.int vb), .val (.int v5), .val (.int v9), .val (.int v13), .val (.ref fg), .val (.int ga), .val (.int gb), .val (.int v36), .val (.int v42), .val (.int v55), .val (.int v60), .val (.int v66), .val (.int r69.1), .unset, .unset, .unset, .unset, .unset] [])) := q72.trans (by
        show Steps p.tables e below (T70.setTop (mkF m 250 #[.val (.int p0), .val (.int p1), .val (.int p2), .val (.int p3), .val (.int va), .val (.int vb), .val (.int v5), .val (.int v9), .val (.int v13), .val (.ref fg), .val (.int ga), .val (.int gb), .val (.int v36), .val (.int v42), .val (.int v55), .val (.int v60), .val (.int v66), .val (.int r69.1), .unset, .unset, .unset, .unset, .unset] [(.int v66), (.int r69.1)])) _
        refine XS.icmpYes X70.here hx rfl (pc0 := 250) (pc' := 255) rfl (hb hby at_250) rfl (feq hc73).2 (by decide) (by decide) ?_
        show Steps p.tables e below (T70.setTop (mkF m 255 #[.val (.int p0), .val (.int p1), .val (.int p2), .val (.int p3), .val (.int va), .val (.int vb), .val (.int v5), .val (.int v9), .val (.int v13), .val (.ref fg), .val (.int ga), .val (.int gb), .val (.int v36), .val (.int v42), .val (.int v55), .val (.int v60), .val (.int v66), .val (.int r69.1), .unset, .unset, .unset, .unset, .unset] [])) _
        exact Steps.refl _)
    have q76 : Steps p.tables e below (s₁.setTop (entryFrame m #[(.int p0), (.int p1), (.int p2), (.int p3)] maxLocals)) (T70.setTop (mkF m 258 #[.val (.int p0), .val (.int p1), .val (.int p2), .val (.int p3), .val (.int va), .val (.int vb), .val (.int v5), .val (.int v9), .val (.int v13), .val (.ref fg), .val (.int ga), .val (.int gb), .val (.int v36), .val (.int v42), .val (.int v55), .val (.int v60), .val (.int v66), .val (.int r69.1), .unset, .unset, .unset, .unset, .unset] [(.int (-1 : Int32)), (.int v55)])) := q75.trans (by
        show Steps p.tables e below (T70.setTop (mkF m 255 #[.val (.int p0), .val (.int p1), .val (.int p2), .val (.int p3), .val (.int va), .val (.int vb), .val (.int v5), .val (.int v9), .val (.int v13), .val (.ref fg), .val (.int ga), .val (.int gb), .val (.int v36), .val (.int v42), .val (.int v55), .val (.int v60), .val (.int v66), .val (.int r69.1), .unset, .unset, .unset, .unset, .unset] [])) _
        refine XS.iload X70.here hx rfl (hb hby at_255) rfl ?_
        show Steps p.tables e below (T70.setTop (mkF m 257 #[.val (.int p0), .val (.int p1), .val (.int p2), .val (.int p3), .val (.int va), .val (.int vb), .val (.int v5), .val (.int v9), .val (.int v13), .val (.ref fg), .val (.int ga), .val (.int gb), .val (.int v36), .val (.int v42), .val (.int v55), .val (.int v60), .val (.int v66), .val (.int r69.1), .unset, .unset, .unset, .unset, .unset] [(.int v55)])) _
        refine XS.iconst X70.here hx rfl (hb hby at_257) ?_
        show Steps p.tables e below (T70.setTop (mkF m 258 #[.val (.int p0), .val (.int p1), .val (.int p2), .val (.int p3), .val (.int va), .val (.int vb), .val (.int v5), .val (.int v9), .val (.int v13), .val (.ref fg), .val (.int ga), .val (.int gb), .val (.int v36), .val (.int v42), .val (.int v55), .val (.int v60), .val (.int v66), .val (.int r69.1), .unset, .unset, .unset, .unset, .unset] [(.int (-1 : Int32)), (.int v55)])) _
        exact Steps.refl _)
    obtain ⟨v78, hv78, hM⟩ := Option.bind_eq_some_iff.mp hM
    have hv78 := (Option.some.inj hv78).symm
    have q79 : Steps p.tables e below (s₁.setTop (entryFrame m #[(.int p0), (.int p1), (.int p2), (.int p3)] maxLocals)) (T70.setTop (mkF m 268 #[.val (.int p0), .val (.int p1), .val (.int p2), .val (.int p3), .val (.int va), .val (.int vb), .val (.int v5), .val (.int v9), .val (.int v13), .val (.ref fg), .val (.int ga), .val (.int gb), .val (.int v36), .val (.int v42), .val (.int v55), .val (.int v60), .val (.int v66), .val (.int r69.1), .unset, .unset, .unset, .unset, .unset] [(.int v78)])) := by
      refine q76.trans ?_
      show Steps p.tables e below (T70.setTop (mkF m 258 #[.val (.int p0), .val (.int p1), .val (.int p2), .val (.int p3), .val (.int va), .val (.int vb), .val (.int v5), .val (.int v9), .val (.int v13), .val (.ref fg), .val (.int ga), .val (.int gb), .val (.int v36), .val (.int v42), .val (.int v55), .val (.int v60), .val (.int v66), .val (.int r69.1), .unset, .unset, .unset, .unset, .unset] [(.int (-1 : Int32)), (.int v55)])) _
      by_cases hc77 : v55 = (-1 : Int32)
      · rw [if_pos hc77] at hv78
        refine XS.icmpYes X70.here hx rfl (pc0 := 258) (pc' := 266) rfl (hb hby at_258) rfl (teq hc77).1 (by decide) (by decide) ?_
        show Steps p.tables e below (T70.setTop (mkF m 266 #[.val (.int p0), .val (.int p1), .val (.int p2), .val (.int p3), .val (.int va), .val (.int vb), .val (.int v5), .val (.int v9), .val (.int v13), .val (.ref fg), .val (.int ga), .val (.int gb), .val (.int v36), .val (.int v42), .val (.int v55), .val (.int v60), .val (.int v66), .val (.int r69.1), .unset, .unset, .unset, .unset, .unset] [])) _
        refine XS.iload X70.here hx rfl (hb hby at_266) rfl ?_
        show Steps p.tables e below (T70.setTop (mkF m 268 #[.val (.int p0), .val (.int p1), .val (.int p2), .val (.int p3), .val (.int va), .val (.int vb), .val (.int v5), .val (.int v9), .val (.int v13), .val (.ref fg), .val (.int ga), .val (.int gb), .val (.int v36), .val (.int v42), .val (.int v55), .val (.int v60), .val (.int v66), .val (.int r69.1), .unset, .unset, .unset, .unset, .unset] [(.int v60)])) _
        rw [hv78]
        exact Steps.refl _
      · rw [if_neg hc77] at hv78
        refine XS.icmpNo X70.here hx rfl (hb hby at_258) rfl (feq hc77).1 ?_
        show Steps p.tables e below (T70.setTop (mkF m 261 #[.val (.int p0), .val (.int p1), .val (.int p2), .val (.int p3), .val (.int va), .val (.int vb), .val (.int v5), .val (.int v9), .val (.int v13), .val (.ref fg), .val (.int ga), .val (.int gb), .val (.int v36), .val (.int v42), .val (.int v55), .val (.int v60), .val (.int v66), .val (.int r69.1), .unset, .unset, .unset, .unset, .unset] [])) _
        refine XS.iload X70.here hx rfl (hb hby at_261) rfl ?_
        show Steps p.tables e below (T70.setTop (mkF m 263 #[.val (.int p0), .val (.int p1), .val (.int p2), .val (.int p3), .val (.int va), .val (.int vb), .val (.int v5), .val (.int v9), .val (.int v13), .val (.ref fg), .val (.int ga), .val (.int gb), .val (.int v36), .val (.int v42), .val (.int v55), .val (.int v60), .val (.int v66), .val (.int r69.1), .unset, .unset, .unset, .unset, .unset] [(.int v55)])) _
        refine XS.goto X70.here hx rfl (pc0 := 263) (pc' := 268) rfl (hb hby at_263) (by decide) (by decide) ?_
        show Steps p.tables e below (T70.setTop (mkF m 268 #[.val (.int p0), .val (.int p1), .val (.int p2), .val (.int p3), .val (.int va), .val (.int vb), .val (.int v5), .val (.int v9), .val (.int v13), .val (.ref fg), .val (.int ga), .val (.int gb), .val (.int v36), .val (.int v42), .val (.int v55), .val (.int v60), .val (.int v66), .val (.int r69.1), .unset, .unset, .unset, .unset, .unset] [(.int v55)])) _
        rw [hv78]
        exact Steps.refl _
    have q80 : Steps p.tables e below (s₁.setTop (entryFrame m #[(.int p0), (.int p1), (.int p2), (.int p3)] maxLocals)) (T70.setTop (mkF m 272 #[.val (.int p0), .val (.int p1), .val (.int p2), .val (.int p3), .val (.int va), .val (.int vb), .val (.int v5), .val (.int v9), .val (.int v13), .val (.ref fg), .val (.int ga), .val (.int gb), .val (.int v36), .val (.int v42), .val (.int v55), .val (.int v60), .val (.int v66), .val (.int r69.1), .val (.int v78), .unset, .unset, .unset, .unset] [(.int v66)])) := q79.trans (by
        show Steps p.tables e below (T70.setTop (mkF m 268 #[.val (.int p0), .val (.int p1), .val (.int p2), .val (.int p3), .val (.int va), .val (.int vb), .val (.int v5), .val (.int v9), .val (.int v13), .val (.ref fg), .val (.int ga), .val (.int gb), .val (.int v36), .val (.int v42), .val (.int v55), .val (.int v60), .val (.int v66), .val (.int r69.1), .unset, .unset, .unset, .unset, .unset] [(.int v78)])) _
        refine XS.istore X70.here hx rfl (hb hby at_268) rfl (l' := #[.val (.int p0), .val (.int p1), .val (.int p2), .val (.int p3), .val (.int va), .val (.int vb), .val (.int v5), .val (.int v9), .val (.int v13), .val (.ref fg), .val (.int ga), .val (.int gb), .val (.int v36), .val (.int v42), .val (.int v55), .val (.int v60), .val (.int v66), .val (.int r69.1), .val (.int v78), .unset, .unset, .unset, .unset]) rfl ?_
        show Steps p.tables e below (T70.setTop (mkF m 270 #[.val (.int p0), .val (.int p1), .val (.int p2), .val (.int p3), .val (.int va), .val (.int vb), .val (.int v5), .val (.int v9), .val (.int v13), .val (.ref fg), .val (.int ga), .val (.int gb), .val (.int v36), .val (.int v42), .val (.int v55), .val (.int v60), .val (.int v66), .val (.int r69.1), .val (.int v78), .unset, .unset, .unset, .unset] [])) _
        refine XS.iload X70.here hx rfl (hb hby at_270) rfl ?_
        show Steps p.tables e below (T70.setTop (mkF m 272 #[.val (.int p0), .val (.int p1), .val (.int p2), .val (.int p3), .val (.int va), .val (.int vb), .val (.int v5), .val (.int v9), .val (.int v13), .val (.ref fg), .val (.int ga), .val (.int gb), .val (.int v36), .val (.int v42), .val (.int v55), .val (.int v60), .val (.int v66), .val (.int r69.1), .val (.int v78), .unset, .unset, .unset, .unset] [(.int v66)])) _
        exact Steps.refl _)
    obtain ⟨v82, hv82, hM⟩ := Option.bind_eq_some_iff.mp hM
    have hv82 := (Option.some.inj hv82).symm
    have q83 : Steps p.tables e below (s₁.setTop (entryFrame m #[(.int p0), (.int p1), (.int p2), (.int p3)] maxLocals)) (T70.setTop (mkF m 282 #[.val (.int p0), .val (.int p1), .val (.int p2), .val (.int p3), .val (.int va), .val (.int vb), .val (.int v5), .val (.int v9), .val (.int v13), .val (.ref fg), .val (.int ga), .val (.int gb), .val (.int v36), .val (.int v42), .val (.int v55), .val (.int v60), .val (.int v66), .val (.int r69.1), .val (.int v78), .unset, .unset, .unset, .unset] [(.int v82)])) := by
      refine q80.trans ?_
      show Steps p.tables e below (T70.setTop (mkF m 272 #[.val (.int p0), .val (.int p1), .val (.int p2), .val (.int p3), .val (.int va), .val (.int vb), .val (.int v5), .val (.int v9), .val (.int v13), .val (.ref fg), .val (.int ga), .val (.int gb), .val (.int v36), .val (.int v42), .val (.int v55), .val (.int v60), .val (.int v66), .val (.int r69.1), .val (.int v78), .unset, .unset, .unset, .unset] [(.int v66)])) _
      by_cases hc81 : v66 = (0 : Int32)
      · rw [if_pos hc81] at hv82
        refine XS.ifYes X70.here hx rfl (pc0 := 272) (pc' := 280) rfl (hb hby at_272) rfl ((if0 _ _).trans (teq hc81).1) (by decide) (by decide) ?_
        show Steps p.tables e below (T70.setTop (mkF m 280 #[.val (.int p0), .val (.int p1), .val (.int p2), .val (.int p3), .val (.int va), .val (.int vb), .val (.int v5), .val (.int v9), .val (.int v13), .val (.ref fg), .val (.int ga), .val (.int gb), .val (.int v36), .val (.int v42), .val (.int v55), .val (.int v60), .val (.int v66), .val (.int r69.1), .val (.int v78), .unset, .unset, .unset, .unset] [])) _
        refine XS.iload X70.here hx rfl (hb hby at_280) rfl ?_
        show Steps p.tables e below (T70.setTop (mkF m 282 #[.val (.int p0), .val (.int p1), .val (.int p2), .val (.int p3), .val (.int va), .val (.int vb), .val (.int v5), .val (.int v9), .val (.int v13), .val (.ref fg), .val (.int ga), .val (.int gb), .val (.int v36), .val (.int v42), .val (.int v55), .val (.int v60), .val (.int v66), .val (.int r69.1), .val (.int v78), .unset, .unset, .unset, .unset] [(.int v78)])) _
        rw [hv82]
        exact Steps.refl _
      · rw [if_neg hc81] at hv82
        refine XS.ifNo X70.here hx rfl (hb hby at_272) rfl ((if0 _ _).trans (feq hc81).1) ?_
        show Steps p.tables e below (T70.setTop (mkF m 275 #[.val (.int p0), .val (.int p1), .val (.int p2), .val (.int p3), .val (.int va), .val (.int vb), .val (.int v5), .val (.int v9), .val (.int v13), .val (.ref fg), .val (.int ga), .val (.int gb), .val (.int v36), .val (.int v42), .val (.int v55), .val (.int v60), .val (.int v66), .val (.int r69.1), .val (.int v78), .unset, .unset, .unset, .unset] [])) _
        refine XS.iload X70.here hx rfl (hb hby at_275) rfl ?_
        show Steps p.tables e below (T70.setTop (mkF m 277 #[.val (.int p0), .val (.int p1), .val (.int p2), .val (.int p3), .val (.int va), .val (.int vb), .val (.int v5), .val (.int v9), .val (.int v13), .val (.ref fg), .val (.int ga), .val (.int gb), .val (.int v36), .val (.int v42), .val (.int v55), .val (.int v60), .val (.int v66), .val (.int r69.1), .val (.int v78), .unset, .unset, .unset, .unset] [(.int v55)])) _
        refine XS.goto X70.here hx rfl (pc0 := 277) (pc' := 282) rfl (hb hby at_277) (by decide) (by decide) ?_
        show Steps p.tables e below (T70.setTop (mkF m 282 #[.val (.int p0), .val (.int p1), .val (.int p2), .val (.int p3), .val (.int va), .val (.int vb), .val (.int v5), .val (.int v9), .val (.int v13), .val (.ref fg), .val (.int ga), .val (.int gb), .val (.int v36), .val (.int v42), .val (.int v55), .val (.int v60), .val (.int v66), .val (.int r69.1), .val (.int v78), .unset, .unset, .unset, .unset] [(.int v55)])) _
        rw [hv82]
        exact Steps.refl _
    have q84 : Steps p.tables e below (s₁.setTop (entryFrame m #[(.int p0), (.int p1), (.int p2), (.int p3)] maxLocals)) (T70.setTop (mkF m 288 #[.val (.int p0), .val (.int p1), .val (.int p2), .val (.int p3), .val (.int va), .val (.int vb), .val (.int v5), .val (.int v9), .val (.int v13), .val (.ref fg), .val (.int ga), .val (.int gb), .val (.int v36), .val (.int v42), .val (.int v55), .val (.int v60), .val (.int v66), .val (.int r69.1), .val (.int v78), .val (.int v82), .unset, .unset, .unset] [(.int va), (.ref fg)])) := q83.trans (by
        show Steps p.tables e below (T70.setTop (mkF m 282 #[.val (.int p0), .val (.int p1), .val (.int p2), .val (.int p3), .val (.int va), .val (.int vb), .val (.int v5), .val (.int v9), .val (.int v13), .val (.ref fg), .val (.int ga), .val (.int gb), .val (.int v36), .val (.int v42), .val (.int v55), .val (.int v60), .val (.int v66), .val (.int r69.1), .val (.int v78), .unset, .unset, .unset, .unset] [(.int v82)])) _
        refine XS.istore X70.here hx rfl (hb hby at_282) rfl (l' := #[.val (.int p0), .val (.int p1), .val (.int p2), .val (.int p3), .val (.int va), .val (.int vb), .val (.int v5), .val (.int v9), .val (.int v13), .val (.ref fg), .val (.int ga), .val (.int gb), .val (.int v36), .val (.int v42), .val (.int v55), .val (.int v60), .val (.int v66), .val (.int r69.1), .val (.int v78), .val (.int v82), .unset, .unset, .unset]) rfl ?_
        show Steps p.tables e below (T70.setTop (mkF m 284 #[.val (.int p0), .val (.int p1), .val (.int p2), .val (.int p3), .val (.int va), .val (.int vb), .val (.int v5), .val (.int v9), .val (.int v13), .val (.ref fg), .val (.int ga), .val (.int gb), .val (.int v36), .val (.int v42), .val (.int v55), .val (.int v60), .val (.int v66), .val (.int r69.1), .val (.int v78), .val (.int v82), .unset, .unset, .unset] [])) _
        refine XS.aload X70.here hx rfl (hb hby at_284) rfl rfl ?_
        show Steps p.tables e below (T70.setTop (mkF m 286 #[.val (.int p0), .val (.int p1), .val (.int p2), .val (.int p3), .val (.int va), .val (.int vb), .val (.int v5), .val (.int v9), .val (.int v13), .val (.ref fg), .val (.int ga), .val (.int gb), .val (.int v36), .val (.int v42), .val (.int v55), .val (.int v60), .val (.int v66), .val (.int r69.1), .val (.int v78), .val (.int v82), .unset, .unset, .unset] [(.ref fg)])) _
        refine XS.iload X70.here hx rfl (hb hby at_286) rfl ?_
        show Steps p.tables e below (T70.setTop (mkF m 288 #[.val (.int p0), .val (.int p1), .val (.int p2), .val (.int p3), .val (.int va), .val (.int vb), .val (.int v5), .val (.int v9), .val (.int v13), .val (.ref fg), .val (.int ga), .val (.int gb), .val (.int v36), .val (.int v42), .val (.int v55), .val (.int v60), .val (.int v66), .val (.int r69.1), .val (.int v78), .val (.int v82), .unset, .unset, .unset] [(.int va), (.ref fg)])) _
        exact Steps.refl _)
    obtain ⟨r85, hr85, hM⟩ := Option.bind_eq_some_iff.mp hM
    obtain ⟨cq86, kq86, q86a, q86b, q86c⟩ := isOf hZ rfl Xfg_70
    obtain ⟨_, _, ⟨T86, L86, k86, n86⟩, -, X86, ⟨Lc86, hQ86, l86, y86, z86⟩, st86⟩ := X70.virtualBack hx (y := (⟨"com/example/tideplan/tideplan/planner/ForwardGroups", "parallelism", "(I)I"⟩ : MethodName)) (z := (⟨"com/example/tideplan/tideplan/planner/ForwardGroups", "parallelism", "(I)I"⟩ : MethodName)) hown (mvT hZ (hw _ (List.mem_of_getElem? (i := 29) rfl))) (mvT hZ (hw _ (List.mem_of_getElem? (i := 30) rfl))) (notFace_of_selects (args := #[]) (mvT hZ (hw _ (List.mem_of_getElem? (i := 32) rfl)))) (mvT hZ (hw _ (List.mem_of_getElem? (i := 32) rfl))) (mvT hZ (hw _ (List.mem_of_getElem? (i := 31) rfl))) (by decide) (backOf (W := 0) (rmP l Z a0 hw [] fg va aP aS aQ r69.2.1 r69.2.2.1 r69.2.2.2 r85 T70.heap n0 Z70 Xfg_70 Ffg_parent_70 Ffg_size_70 Ffg_parallelism_70 J70_0 J70_1 J70_2 ge_aP ge_aS ge_aQ ne_aP_aS ne_aP_aQ ne_aS_aQ ne_fg_aP ne_fg_aS ne_fg_aQ hr85) hZ (hw _ (List.mem_of_getElem? (i := 33) rfl)) (hw _ (List.mem_of_getElem? (i := 2) rfl)) (by decide) (by decide)) q86a q86c (g := (mkF m 288 #[.val (.int p0), .val (.int p1), .val (.int p2), .val (.int p3), .val (.int va), .val (.int vb), .val (.int v5), .val (.int v9), .val (.int v13), .val (.ref fg), .val (.int ga), .val (.int gb), .val (.int v36), .val (.int v42), .val (.int v55), .val (.int v60), .val (.int v66), .val (.int r69.1), .val (.int v78), .val (.int v82), .unset, .unset, .unset] [(.int va), (.ref fg)])) rfl (by rw [hml]; rfl) (Steps.refl _) (argsL := [(.int va)]) (rest := []) (lenOf pd_0 rfl) rfl (by show 2 * 0 + _ ≤ _; exact Nat.le_of_eq rfl) (hb hby at_288) (fun _ _ => ⟨rfl, rfl, (by decide : 4 + 0 ≤ _), (by decide : 15 + 0 ≤ _)⟩)
    dsimp only [Pt.U, Pt.locs, Pt.cells, Pt.slots] at X86 l86 y86 z86 st86 hQ86
    subst l86 y86 z86
    obtain ⟨rfl, N86q, K86, J86_0⟩ := hQ86
    have N86 := Fr.app N70 N86q
    have IaS_86 := J70_1.keep K86 (ninS (Ne.symm ne_aP_aS) nin0)
    have IaQ_86 := J70_2.keep K86 (ninS (Ne.symm ne_aP_aQ) nin0)
    have Xfg_86 := Xfg_70.keep K86
    have Ffg_parent_86 := Ffg_parent_70.keep K86 (ninS ne_fg_aP nin0)
    have Ffg_size_86 := Ffg_size_70.keep K86 (ninS ne_fg_aP nin0)
    have Ffg_parallelism_86 := Ffg_parallelism_70.keep K86 (ninS ne_fg_aP nin0)
    have Z86 : n0 ≤ T86.heap.size := Nat.le_trans Z70 K86.1
    have q87 : Steps p.tables e below (s₁.setTop (entryFrame m #[(.int p0), (.int p1), (.int p2), (.int p3)] maxLocals)) (T86.setTop (mkF m 291 #[.val (.int p0), .val (.int p1), .val (.int p2), .val (.int p3), .val (.int va), .val (.int vb), .val (.int v5), .val (.int v9), .val (.int v13), .val (.ref fg), .val (.int ga), .val (.int gb), .val (.int v36), .val (.int v42), .val (.int v55), .val (.int v60), .val (.int v66), .val (.int r69.1), .val (.int v78), .val (.int v82), .unset, .unset, .unset] [(.int r85.1)])) := q84.trans (st86)
    have q88 : Steps p.tables e below (s₁.setTop (entryFrame m #[(.int p0), (.int p1), (.int p2), (.int p3)] maxLocals)) (T86.setTop (mkF m 297 #[.val (.int p0), .val (.int p1), .val (.int p2), .val (.int p3), .val (.int va), .val (.int vb), .val (.int v5), .val (.int v9), .val (.int v13), .val (.ref fg), .val (.int ga), .val (.int gb), .val (.int v36), .val (.int v42), .val (.int v55), .val (.int v60), .val (.int v66), .val (.int r69.1), .val (.int v78), .val (.int v82), .val (.int r85.1), .unset, .unset] [(.int v82), (.int r85.1)])) := q87.trans (by
        show Steps p.tables e below (T86.setTop (mkF m 291 #[.val (.int p0), .val (.int p1), .val (.int p2), .val (.int p3), .val (.int va), .val (.int vb), .val (.int v5), .val (.int v9), .val (.int v13), .val (.ref fg), .val (.int ga), .val (.int gb), .val (.int v36), .val (.int v42), .val (.int v55), .val (.int v60), .val (.int v66), .val (.int r69.1), .val (.int v78), .val (.int v82), .unset, .unset, .unset] [(.int r85.1)])) _
        refine XS.istore X86.here hx rfl (hb hby at_291) rfl (l' := #[.val (.int p0), .val (.int p1), .val (.int p2), .val (.int p3), .val (.int va), .val (.int vb), .val (.int v5), .val (.int v9), .val (.int v13), .val (.ref fg), .val (.int ga), .val (.int gb), .val (.int v36), .val (.int v42), .val (.int v55), .val (.int v60), .val (.int v66), .val (.int r69.1), .val (.int v78), .val (.int v82), .val (.int r85.1), .unset, .unset]) rfl ?_
        show Steps p.tables e below (T86.setTop (mkF m 293 #[.val (.int p0), .val (.int p1), .val (.int p2), .val (.int p3), .val (.int va), .val (.int vb), .val (.int v5), .val (.int v9), .val (.int v13), .val (.ref fg), .val (.int ga), .val (.int gb), .val (.int v36), .val (.int v42), .val (.int v55), .val (.int v60), .val (.int v66), .val (.int r69.1), .val (.int v78), .val (.int v82), .val (.int r85.1), .unset, .unset] [])) _
        refine XS.iload X86.here hx rfl (hb hby at_293) rfl ?_
        show Steps p.tables e below (T86.setTop (mkF m 295 #[.val (.int p0), .val (.int p1), .val (.int p2), .val (.int p3), .val (.int va), .val (.int vb), .val (.int v5), .val (.int v9), .val (.int v13), .val (.ref fg), .val (.int ga), .val (.int gb), .val (.int v36), .val (.int v42), .val (.int v55), .val (.int v60), .val (.int v66), .val (.int r69.1), .val (.int v78), .val (.int v82), .val (.int r85.1), .unset, .unset] [(.int r85.1)])) _
        refine XS.iload X86.here hx rfl (hb hby at_295) rfl ?_
        show Steps p.tables e below (T86.setTop (mkF m 297 #[.val (.int p0), .val (.int p1), .val (.int p2), .val (.int p3), .val (.int va), .val (.int vb), .val (.int v5), .val (.int v9), .val (.int v13), .val (.ref fg), .val (.int ga), .val (.int gb), .val (.int v36), .val (.int v42), .val (.int v55), .val (.int v60), .val (.int v66), .val (.int r69.1), .val (.int v78), .val (.int v82), .val (.int r85.1), .unset, .unset] [(.int v82), (.int r85.1)])) _
        exact Steps.refl _)
    by_cases hc89 : r85.1 = v82
    · rw [if_pos hc89] at hM
      have q90 : Steps p.tables e below (s₁.setTop (entryFrame m #[(.int p0), (.int p1), (.int p2), (.int p3)] maxLocals)) (T86.setTop (mkF m 302 #[.val (.int p0), .val (.int p1), .val (.int p2), .val (.int p3), .val (.int va), .val (.int vb), .val (.int v5), .val (.int v9), .val (.int v13), .val (.ref fg), .val (.int ga), .val (.int gb), .val (.int v36), .val (.int v42), .val (.int v55), .val (.int v60), .val (.int v66), .val (.int r69.1), .val (.int v78), .val (.int v82), .val (.int r85.1), .unset, .unset] [])) := q88.trans (by
          show Steps p.tables e below (T86.setTop (mkF m 297 #[.val (.int p0), .val (.int p1), .val (.int p2), .val (.int p3), .val (.int va), .val (.int vb), .val (.int v5), .val (.int v9), .val (.int v13), .val (.ref fg), .val (.int ga), .val (.int gb), .val (.int v36), .val (.int v42), .val (.int v55), .val (.int v60), .val (.int v66), .val (.int r69.1), .val (.int v78), .val (.int v82), .val (.int r85.1), .unset, .unset] [(.int v82), (.int r85.1)])) _
          refine XS.icmpYes X86.here hx rfl (pc0 := 297) (pc' := 302) rfl (hb hby at_297) rfl (teq hc89).1 (by decide) (by decide) ?_
          show Steps p.tables e below (T86.setTop (mkF m 302 #[.val (.int p0), .val (.int p1), .val (.int p2), .val (.int p3), .val (.int va), .val (.int vb), .val (.int v5), .val (.int v9), .val (.int v13), .val (.ref fg), .val (.int ga), .val (.int gb), .val (.int v36), .val (.int v42), .val (.int v55), .val (.int v60), .val (.int v66), .val (.int r69.1), .val (.int v78), .val (.int v82), .val (.int r85.1), .unset, .unset] [])) _
          exact Steps.refl _)
      have q91 : Steps p.tables e below (s₁.setTop (entryFrame m #[(.int p0), (.int p1), (.int p2), (.int p3)] maxLocals)) (T86.setTop (mkF m 305 #[.val (.int p0), .val (.int p1), .val (.int p2), .val (.int p3), .val (.int va), .val (.int vb), .val (.int v5), .val (.int v9), .val (.int v13), .val (.ref fg), .val (.int ga), .val (.int gb), .val (.int v36), .val (.int v42), .val (.int v55), .val (.int v60), .val (.int v66), .val (.int r69.1), .val (.int v78), .val (.int v82), .val (.int r85.1), .unset, .unset] [(.int (-1 : Int32)), (.int v82)])) := q90.trans (by
          show Steps p.tables e below (T86.setTop (mkF m 302 #[.val (.int p0), .val (.int p1), .val (.int p2), .val (.int p3), .val (.int va), .val (.int vb), .val (.int v5), .val (.int v9), .val (.int v13), .val (.ref fg), .val (.int ga), .val (.int gb), .val (.int v36), .val (.int v42), .val (.int v55), .val (.int v60), .val (.int v66), .val (.int r69.1), .val (.int v78), .val (.int v82), .val (.int r85.1), .unset, .unset] [])) _
          refine XS.iload X86.here hx rfl (hb hby at_302) rfl ?_
          show Steps p.tables e below (T86.setTop (mkF m 304 #[.val (.int p0), .val (.int p1), .val (.int p2), .val (.int p3), .val (.int va), .val (.int vb), .val (.int v5), .val (.int v9), .val (.int v13), .val (.ref fg), .val (.int ga), .val (.int gb), .val (.int v36), .val (.int v42), .val (.int v55), .val (.int v60), .val (.int v66), .val (.int r69.1), .val (.int v78), .val (.int v82), .val (.int r85.1), .unset, .unset] [(.int v82)])) _
          refine XS.iconst X86.here hx rfl (hb hby at_304) ?_
          show Steps p.tables e below (T86.setTop (mkF m 305 #[.val (.int p0), .val (.int p1), .val (.int p2), .val (.int p3), .val (.int va), .val (.int vb), .val (.int v5), .val (.int v9), .val (.int v13), .val (.ref fg), .val (.int ga), .val (.int gb), .val (.int v36), .val (.int v42), .val (.int v55), .val (.int v60), .val (.int v66), .val (.int r69.1), .val (.int v78), .val (.int v82), .val (.int r85.1), .unset, .unset] [(.int (-1 : Int32)), (.int v82)])) _
          exact Steps.refl _)
      obtain ⟨v93, hv93, hM⟩ := Option.bind_eq_some_iff.mp hM
      have hv93 := (Option.some.inj hv93).symm
      have q94 : Steps p.tables e below (s₁.setTop (entryFrame m #[(.int p0), (.int p1), (.int p2), (.int p3)] maxLocals)) (T86.setTop (mkF m 313 #[.val (.int p0), .val (.int p1), .val (.int p2), .val (.int p3), .val (.int va), .val (.int vb), .val (.int v5), .val (.int v9), .val (.int v13), .val (.ref fg), .val (.int ga), .val (.int gb), .val (.int v36), .val (.int v42), .val (.int v55), .val (.int v60), .val (.int v66), .val (.int r69.1), .val (.int v78), .val (.int v82), .val (.int r85.1), .unset, .unset] [(.int v93)])) := by
        refine q91.trans ?_
        show Steps p.tables e below (T86.setTop (mkF m 305 #[.val (.int p0), .val (.int p1), .val (.int p2), .val (.int p3), .val (.int va), .val (.int vb), .val (.int v5), .val (.int v9), .val (.int v13), .val (.ref fg), .val (.int ga), .val (.int gb), .val (.int v36), .val (.int v42), .val (.int v55), .val (.int v60), .val (.int v66), .val (.int r69.1), .val (.int v78), .val (.int v82), .val (.int r85.1), .unset, .unset] [(.int (-1 : Int32)), (.int v82)])) _
        by_cases hc92 : v82 = (-1 : Int32)
        · rw [if_pos hc92] at hv93
          refine XS.icmpNo X86.here hx rfl (hb hby at_305) rfl (teq hc92).2 ?_
          show Steps p.tables e below (T86.setTop (mkF m 308 #[.val (.int p0), .val (.int p1), .val (.int p2), .val (.int p3), .val (.int va), .val (.int vb), .val (.int v5), .val (.int v9), .val (.int v13), .val (.ref fg), .val (.int ga), .val (.int gb), .val (.int v36), .val (.int v42), .val (.int v55), .val (.int v60), .val (.int v66), .val (.int r69.1), .val (.int v78), .val (.int v82), .val (.int r85.1), .unset, .unset] [])) _
          refine XS.iconst X86.here hx rfl (hb hby at_308) ?_
          show Steps p.tables e below (T86.setTop (mkF m 309 #[.val (.int p0), .val (.int p1), .val (.int p2), .val (.int p3), .val (.int va), .val (.int vb), .val (.int v5), .val (.int v9), .val (.int v13), .val (.ref fg), .val (.int ga), .val (.int gb), .val (.int v36), .val (.int v42), .val (.int v55), .val (.int v60), .val (.int v66), .val (.int r69.1), .val (.int v78), .val (.int v82), .val (.int r85.1), .unset, .unset] [(.int (1 : Int32))])) _
          refine XS.goto X86.here hx rfl (pc0 := 309) (pc' := 313) rfl (hb hby at_309) (by decide) (by decide) ?_
          show Steps p.tables e below (T86.setTop (mkF m 313 #[.val (.int p0), .val (.int p1), .val (.int p2), .val (.int p3), .val (.int va), .val (.int vb), .val (.int v5), .val (.int v9), .val (.int v13), .val (.ref fg), .val (.int ga), .val (.int gb), .val (.int v36), .val (.int v42), .val (.int v55), .val (.int v60), .val (.int v66), .val (.int r69.1), .val (.int v78), .val (.int v82), .val (.int r85.1), .unset, .unset] [(.int (1 : Int32))])) _
          rw [hv93]
          exact Steps.refl _
        · rw [if_neg hc92] at hv93
          refine XS.icmpYes X86.here hx rfl (pc0 := 305) (pc' := 312) rfl (hb hby at_305) rfl (feq hc92).2 (by decide) (by decide) ?_
          show Steps p.tables e below (T86.setTop (mkF m 312 #[.val (.int p0), .val (.int p1), .val (.int p2), .val (.int p3), .val (.int va), .val (.int vb), .val (.int v5), .val (.int v9), .val (.int v13), .val (.ref fg), .val (.int ga), .val (.int gb), .val (.int v36), .val (.int v42), .val (.int v55), .val (.int v60), .val (.int v66), .val (.int r69.1), .val (.int v78), .val (.int v82), .val (.int r85.1), .unset, .unset] [])) _
          refine XS.iconst X86.here hx rfl (hb hby at_312) ?_
          show Steps p.tables e below (T86.setTop (mkF m 313 #[.val (.int p0), .val (.int p1), .val (.int p2), .val (.int p3), .val (.int va), .val (.int vb), .val (.int v5), .val (.int v9), .val (.int v13), .val (.ref fg), .val (.int ga), .val (.int gb), .val (.int v36), .val (.int v42), .val (.int v55), .val (.int v60), .val (.int v66), .val (.int r69.1), .val (.int v78), .val (.int v82), .val (.int r85.1), .unset, .unset] [(.int (0 : Int32))])) _
          rw [hv93]
          exact Steps.refl _
      have q95 : Steps p.tables e below (s₁.setTop (entryFrame m #[(.int p0), (.int p1), (.int p2), (.int p3)] maxLocals)) (T86.setTop (mkF m 315 #[.val (.int p0), .val (.int p1), .val (.int p2), .val (.int p3), .val (.int va), .val (.int vb), .val (.int v5), .val (.int v9), .val (.int v13), .val (.ref fg), .val (.int ga), .val (.int gb), .val (.int v36), .val (.int v42), .val (.int v55), .val (.int v60), .val (.int v66), .val (.int r69.1), .val (.int v78), .val (.int v82), .val (.int r85.1), .val (.int v93), .unset] [])) := q94.trans (by
          show Steps p.tables e below (T86.setTop (mkF m 313 #[.val (.int p0), .val (.int p1), .val (.int p2), .val (.int p3), .val (.int va), .val (.int vb), .val (.int v5), .val (.int v9), .val (.int v13), .val (.ref fg), .val (.int ga), .val (.int gb), .val (.int v36), .val (.int v42), .val (.int v55), .val (.int v60), .val (.int v66), .val (.int r69.1), .val (.int v78), .val (.int v82), .val (.int r85.1), .unset, .unset] [(.int v93)])) _
          refine XS.istore X86.here hx rfl (hb hby at_313) rfl (l' := #[.val (.int p0), .val (.int p1), .val (.int p2), .val (.int p3), .val (.int va), .val (.int vb), .val (.int v5), .val (.int v9), .val (.int v13), .val (.ref fg), .val (.int ga), .val (.int gb), .val (.int v36), .val (.int v42), .val (.int v55), .val (.int v60), .val (.int v66), .val (.int r69.1), .val (.int v78), .val (.int v82), .val (.int r85.1), .val (.int v93), .unset]) rfl ?_
          show Steps p.tables e below (T86.setTop (mkF m 315 #[.val (.int p0), .val (.int p1), .val (.int p2), .val (.int p3), .val (.int va), .val (.int vb), .val (.int v5), .val (.int v9), .val (.int v13), .val (.ref fg), .val (.int ga), .val (.int gb), .val (.int v36), .val (.int v42), .val (.int v55), .val (.int v60), .val (.int v66), .val (.int r69.1), .val (.int v78), .val (.int v82), .val (.int r85.1), .val (.int v93), .unset] [])) _
          exact Steps.refl _)
      obtain ⟨r96, hr96, hM⟩ := Option.bind_eq_some_iff.mp hM
      obtain ⟨T97, L97, h97, X97, e97, N97, Zq97, K97, J97_0, J97_1, ql97⟩ := sg4 hx hZ hw hby hml hown fg aP aS aQ p0 p1 p2 vb v5 v9 v13 ga gb v36 v42 v55 v60 v66 r69.1 v78 v82 r85.1  ge_aP ge_aS ge_aQ ne_aP_aS ne_aP_aQ ne_aS_aQ ne_fg_aP ne_fg_aS ne_fg_aQ  v93 va p3 r85.2 r69.2.2.1 r69.2.2.2  _ hr96 X86 rfl N86 Z86  Xfg_86 Ffg_parent_86 Ffg_size_86 Ffg_parallelism_86 J86_0 IaS_86 IaQ_86
      have IaS_97 := IaS_86.keep K97 (ninS (Ne.symm ne_aP_aS) (ninS ne_aS_aQ nin0))
      have Xfg_97 := Xfg_86.keep K97
      have Ffg_parent_97 := Ffg_parent_86.keep K97 (ninS ne_fg_aP (ninS ne_fg_aQ nin0))
      have Ffg_size_97 := Ffg_size_86.keep K97 (ninS ne_fg_aP (ninS ne_fg_aQ nin0))
      have Ffg_parallelism_97 := Ffg_parallelism_86.keep K97 (ninS ne_fg_aP (ninS ne_fg_aQ nin0))
      have Z97 : n0 ≤ h97.size := Nat.le_trans Z86 K97.1
      have q98 : Steps p.tables e below (s₁.setTop (entryFrame m #[(.int p0), (.int p1), (.int p2), (.int p3)] maxLocals)) (T97.setTop (mkF m 328 #[.val (.int p0), .val (.int p1), .val (.int p2), .val (.int p3), .val (.int va), .val (.int vb), .val (.int v5), .val (.int v9), .val (.int v13), .val (.ref fg), .val (.int ga), .val (.int gb), .val (.int v36), .val (.int v42), .val (.int v55), .val (.int v60), .val (.int v66), .val (.int r69.1), .val (.int v78), .val (.int v82), .val (.int r85.1), .val (.int v93), .unset] [])) := q95.trans ql97
      have q99 : Steps p.tables e below (s₁.setTop (entryFrame m #[(.int p0), (.int p1), (.int p2), (.int p3)] maxLocals)) (T97.setTop (mkF m 330 #[.val (.int p0), .val (.int p1), .val (.int p2), .val (.int p3), .val (.int va), .val (.int vb), .val (.int v5), .val (.int v9), .val (.int v13), .val (.ref fg), .val (.int ga), .val (.int gb), .val (.int v36), .val (.int v42), .val (.int v55), .val (.int v60), .val (.int v66), .val (.int r69.1), .val (.int v78), .val (.int v82), .val (.int r85.1), .val (.int v93), .unset] [(.int v93)])) := q98.trans (by
          show Steps p.tables e below (T97.setTop (mkF m 328 #[.val (.int p0), .val (.int p1), .val (.int p2), .val (.int p3), .val (.int va), .val (.int vb), .val (.int v5), .val (.int v9), .val (.int v13), .val (.ref fg), .val (.int ga), .val (.int gb), .val (.int v36), .val (.int v42), .val (.int v55), .val (.int v60), .val (.int v66), .val (.int r69.1), .val (.int v78), .val (.int v82), .val (.int r85.1), .val (.int v93), .unset] [])) _
          refine XS.iload X97.here hx rfl (hb hby at_328) rfl ?_
          show Steps p.tables e below (T97.setTop (mkF m 330 #[.val (.int p0), .val (.int p1), .val (.int p2), .val (.int p3), .val (.int va), .val (.int vb), .val (.int v5), .val (.int v9), .val (.int v13), .val (.ref fg), .val (.int ga), .val (.int gb), .val (.int v36), .val (.int v42), .val (.int v55), .val (.int v60), .val (.int v66), .val (.int r69.1), .val (.int v78), .val (.int v82), .val (.int r85.1), .val (.int v93), .unset] [(.int v93)])) _
          exact Steps.refl _)
      obtain ⟨v101, hv101, hM⟩ := Option.bind_eq_some_iff.mp hM
      have hv101 := (Option.some.inj hv101).symm
      have q102 : Steps p.tables e below (s₁.setTop (entryFrame m #[(.int p0), (.int p1), (.int p2), (.int p3)] maxLocals)) (T97.setTop (mkF m 339 #[.val (.int p0), .val (.int p1), .val (.int p2), .val (.int p3), .val (.int va), .val (.int vb), .val (.int v5), .val (.int v9), .val (.int v13), .val (.ref fg), .val (.int ga), .val (.int gb), .val (.int v36), .val (.int v42), .val (.int v55), .val (.int v60), .val (.int v66), .val (.int r69.1), .val (.int v78), .val (.int v82), .val (.int r85.1), .val (.int v93), .unset] [(.int v101)])) := by
        refine q99.trans ?_
        show Steps p.tables e below (T97.setTop (mkF m 330 #[.val (.int p0), .val (.int p1), .val (.int p2), .val (.int p3), .val (.int va), .val (.int vb), .val (.int v5), .val (.int v9), .val (.int v13), .val (.ref fg), .val (.int ga), .val (.int gb), .val (.int v36), .val (.int v42), .val (.int v55), .val (.int v60), .val (.int v66), .val (.int r69.1), .val (.int v78), .val (.int v82), .val (.int r85.1), .val (.int v93), .unset] [(.int v93)])) _
        by_cases hc100 : v93 = (0 : Int32)
        · rw [if_pos hc100] at hv101
          refine XS.ifYes X97.here hx rfl (pc0 := 330) (pc' := 337) rfl (hb hby at_330) rfl ((if0 _ _).trans (teq hc100).1) (by decide) (by decide) ?_
          show Steps p.tables e below (T97.setTop (mkF m 337 #[.val (.int p0), .val (.int p1), .val (.int p2), .val (.int p3), .val (.int va), .val (.int vb), .val (.int v5), .val (.int v9), .val (.int v13), .val (.ref fg), .val (.int ga), .val (.int gb), .val (.int v36), .val (.int v42), .val (.int v55), .val (.int v60), .val (.int v66), .val (.int r69.1), .val (.int v78), .val (.int v82), .val (.int r85.1), .val (.int v93), .unset] [])) _
          refine XS.iload X97.here hx rfl (hb hby at_337) rfl ?_
          show Steps p.tables e below (T97.setTop (mkF m 339 #[.val (.int p0), .val (.int p1), .val (.int p2), .val (.int p3), .val (.int va), .val (.int vb), .val (.int v5), .val (.int v9), .val (.int v13), .val (.ref fg), .val (.int ga), .val (.int gb), .val (.int v36), .val (.int v42), .val (.int v55), .val (.int v60), .val (.int v66), .val (.int r69.1), .val (.int v78), .val (.int v82), .val (.int r85.1), .val (.int v93), .unset] [(.int v82)])) _
          rw [hv101]
          exact Steps.refl _
        · rw [if_neg hc100] at hv101
          refine XS.ifNo X97.here hx rfl (hb hby at_330) rfl ((if0 _ _).trans (feq hc100).1) ?_
          show Steps p.tables e below (T97.setTop (mkF m 333 #[.val (.int p0), .val (.int p1), .val (.int p2), .val (.int p3), .val (.int va), .val (.int vb), .val (.int v5), .val (.int v9), .val (.int v13), .val (.ref fg), .val (.int ga), .val (.int gb), .val (.int v36), .val (.int v42), .val (.int v55), .val (.int v60), .val (.int v66), .val (.int r69.1), .val (.int v78), .val (.int v82), .val (.int r85.1), .val (.int v93), .unset] [])) _
          refine XS.iloadN X97.here hx rfl (hb hby at_333) rfl ?_
          show Steps p.tables e below (T97.setTop (mkF m 334 #[.val (.int p0), .val (.int p1), .val (.int p2), .val (.int p3), .val (.int va), .val (.int vb), .val (.int v5), .val (.int v9), .val (.int v13), .val (.ref fg), .val (.int ga), .val (.int gb), .val (.int v36), .val (.int v42), .val (.int v55), .val (.int v60), .val (.int v66), .val (.int r69.1), .val (.int v78), .val (.int v82), .val (.int r85.1), .val (.int v93), .unset] [(.int p3)])) _
          refine XS.goto X97.here hx rfl (pc0 := 334) (pc' := 339) rfl (hb hby at_334) (by decide) (by decide) ?_
          show Steps p.tables e below (T97.setTop (mkF m 339 #[.val (.int p0), .val (.int p1), .val (.int p2), .val (.int p3), .val (.int va), .val (.int vb), .val (.int v5), .val (.int v9), .val (.int v13), .val (.ref fg), .val (.int ga), .val (.int gb), .val (.int v36), .val (.int v42), .val (.int v55), .val (.int v60), .val (.int v66), .val (.int r69.1), .val (.int v78), .val (.int v82), .val (.int r85.1), .val (.int v93), .unset] [(.int p3)])) _
          rw [hv101]
          exact Steps.refl _
      have q103 : Steps p.tables e below (s₁.setTop (entryFrame m #[(.int p0), (.int p1), (.int p2), (.int p3)] maxLocals)) (T97.setTop (mkF m 356 #[.val (.int p0), .val (.int p1), .val (.int p2), .val (.int p3), .val (.int va), .val (.int vb), .val (.int v5), .val (.int v9), .val (.int v13), .val (.ref fg), .val (.int ga), .val (.int gb), .val (.int v36), .val (.int v42), .val (.int v55), .val (.int v60), .val (.int v66), .val (.int r69.1), .val (.int v78), .val (.int v82), .val (.int r85.1), .val (.int v93), .val (.int v101)] [(.int v60), (.int v101), (.int v66), (.int gb), (.int ga), (.int v5), (.int (0 : Int32)), (.ref fg)])) := q102.trans (by
          show Steps p.tables e below (T97.setTop (mkF m 339 #[.val (.int p0), .val (.int p1), .val (.int p2), .val (.int p3), .val (.int va), .val (.int vb), .val (.int v5), .val (.int v9), .val (.int v13), .val (.ref fg), .val (.int ga), .val (.int gb), .val (.int v36), .val (.int v42), .val (.int v55), .val (.int v60), .val (.int v66), .val (.int r69.1), .val (.int v78), .val (.int v82), .val (.int r85.1), .val (.int v93), .unset] [(.int v101)])) _
          refine XS.istore X97.here hx rfl (hb hby at_339) rfl (l' := #[.val (.int p0), .val (.int p1), .val (.int p2), .val (.int p3), .val (.int va), .val (.int vb), .val (.int v5), .val (.int v9), .val (.int v13), .val (.ref fg), .val (.int ga), .val (.int gb), .val (.int v36), .val (.int v42), .val (.int v55), .val (.int v60), .val (.int v66), .val (.int r69.1), .val (.int v78), .val (.int v82), .val (.int r85.1), .val (.int v93), .val (.int v101)]) rfl ?_
          show Steps p.tables e below (T97.setTop (mkF m 341 #[.val (.int p0), .val (.int p1), .val (.int p2), .val (.int p3), .val (.int va), .val (.int vb), .val (.int v5), .val (.int v9), .val (.int v13), .val (.ref fg), .val (.int ga), .val (.int gb), .val (.int v36), .val (.int v42), .val (.int v55), .val (.int v60), .val (.int v66), .val (.int r69.1), .val (.int v78), .val (.int v82), .val (.int r85.1), .val (.int v93), .val (.int v101)] [])) _
          refine XS.aload X97.here hx rfl (hb hby at_341) rfl rfl ?_
          show Steps p.tables e below (T97.setTop (mkF m 343 #[.val (.int p0), .val (.int p1), .val (.int p2), .val (.int p3), .val (.int va), .val (.int vb), .val (.int v5), .val (.int v9), .val (.int v13), .val (.ref fg), .val (.int ga), .val (.int gb), .val (.int v36), .val (.int v42), .val (.int v55), .val (.int v60), .val (.int v66), .val (.int r69.1), .val (.int v78), .val (.int v82), .val (.int r85.1), .val (.int v93), .val (.int v101)] [(.ref fg)])) _
          refine XS.iconst X97.here hx rfl (hb hby at_343) ?_
          show Steps p.tables e below (T97.setTop (mkF m 344 #[.val (.int p0), .val (.int p1), .val (.int p2), .val (.int p3), .val (.int va), .val (.int vb), .val (.int v5), .val (.int v9), .val (.int v13), .val (.ref fg), .val (.int ga), .val (.int gb), .val (.int v36), .val (.int v42), .val (.int v55), .val (.int v60), .val (.int v66), .val (.int r69.1), .val (.int v78), .val (.int v82), .val (.int r85.1), .val (.int v93), .val (.int v101)] [(.int (0 : Int32)), (.ref fg)])) _
          refine XS.iload X97.here hx rfl (hb hby at_344) rfl ?_
          show Steps p.tables e below (T97.setTop (mkF m 346 #[.val (.int p0), .val (.int p1), .val (.int p2), .val (.int p3), .val (.int va), .val (.int vb), .val (.int v5), .val (.int v9), .val (.int v13), .val (.ref fg), .val (.int ga), .val (.int gb), .val (.int v36), .val (.int v42), .val (.int v55), .val (.int v60), .val (.int v66), .val (.int r69.1), .val (.int v78), .val (.int v82), .val (.int r85.1), .val (.int v93), .val (.int v101)] [(.int v5), (.int (0 : Int32)), (.ref fg)])) _
          refine XS.iload X97.here hx rfl (hb hby at_346) rfl ?_
          show Steps p.tables e below (T97.setTop (mkF m 348 #[.val (.int p0), .val (.int p1), .val (.int p2), .val (.int p3), .val (.int va), .val (.int vb), .val (.int v5), .val (.int v9), .val (.int v13), .val (.ref fg), .val (.int ga), .val (.int gb), .val (.int v36), .val (.int v42), .val (.int v55), .val (.int v60), .val (.int v66), .val (.int r69.1), .val (.int v78), .val (.int v82), .val (.int r85.1), .val (.int v93), .val (.int v101)] [(.int ga), (.int v5), (.int (0 : Int32)), (.ref fg)])) _
          refine XS.iload X97.here hx rfl (hb hby at_348) rfl ?_
          show Steps p.tables e below (T97.setTop (mkF m 350 #[.val (.int p0), .val (.int p1), .val (.int p2), .val (.int p3), .val (.int va), .val (.int vb), .val (.int v5), .val (.int v9), .val (.int v13), .val (.ref fg), .val (.int ga), .val (.int gb), .val (.int v36), .val (.int v42), .val (.int v55), .val (.int v60), .val (.int v66), .val (.int r69.1), .val (.int v78), .val (.int v82), .val (.int r85.1), .val (.int v93), .val (.int v101)] [(.int gb), (.int ga), (.int v5), (.int (0 : Int32)), (.ref fg)])) _
          refine XS.iload X97.here hx rfl (hb hby at_350) rfl ?_
          show Steps p.tables e below (T97.setTop (mkF m 352 #[.val (.int p0), .val (.int p1), .val (.int p2), .val (.int p3), .val (.int va), .val (.int vb), .val (.int v5), .val (.int v9), .val (.int v13), .val (.ref fg), .val (.int ga), .val (.int gb), .val (.int v36), .val (.int v42), .val (.int v55), .val (.int v60), .val (.int v66), .val (.int r69.1), .val (.int v78), .val (.int v82), .val (.int r85.1), .val (.int v93), .val (.int v101)] [(.int v66), (.int gb), (.int ga), (.int v5), (.int (0 : Int32)), (.ref fg)])) _
          refine XS.iload X97.here hx rfl (hb hby at_352) rfl ?_
          show Steps p.tables e below (T97.setTop (mkF m 354 #[.val (.int p0), .val (.int p1), .val (.int p2), .val (.int p3), .val (.int va), .val (.int vb), .val (.int v5), .val (.int v9), .val (.int v13), .val (.ref fg), .val (.int ga), .val (.int gb), .val (.int v36), .val (.int v42), .val (.int v55), .val (.int v60), .val (.int v66), .val (.int r69.1), .val (.int v78), .val (.int v82), .val (.int r85.1), .val (.int v93), .val (.int v101)] [(.int v101), (.int v66), (.int gb), (.int ga), (.int v5), (.int (0 : Int32)), (.ref fg)])) _
          refine XS.iload X97.here hx rfl (hb hby at_354) rfl ?_
          show Steps p.tables e below (T97.setTop (mkF m 356 #[.val (.int p0), .val (.int p1), .val (.int p2), .val (.int p3), .val (.int va), .val (.int vb), .val (.int v5), .val (.int v9), .val (.int v13), .val (.ref fg), .val (.int ga), .val (.int gb), .val (.int v36), .val (.int v42), .val (.int v55), .val (.int v60), .val (.int v66), .val (.int r69.1), .val (.int v78), .val (.int v82), .val (.int r85.1), .val (.int v93), .val (.int v101)] [(.int v60), (.int v101), (.int v66), (.int gb), (.int ga), (.int v5), (.int (0 : Int32)), (.ref fg)])) _
          exact Steps.refl _)
      obtain ⟨r104, hr104, hM⟩ := Option.bind_eq_some_iff.mp hM
      obtain ⟨_, _, ⟨T105, L105, k105, n105⟩, -, X105, ⟨Lc105, hQ105, l105, y105, z105⟩, st105⟩ := Jvm.LawKit.callS X97 hx (y := (⟨"com/example/tideplan/tideplan/planner/ForwardGroupsJoinPinLaw", "at", "(Lcom/example/tideplan/tideplan/planner/ForwardGroups;IZIIZII)Z"⟩ : MethodName)) hown (mvT hZ (hw _ (List.mem_of_getElem? (i := 39) rfl))) (mvT hZ (hw _ (List.mem_of_getElem? (i := 40) rfl))) (mvT hZ (hw _ (List.mem_of_getElem? (i := 18) rfl))) (mvT hZ (hw _ (List.mem_of_getElem? (i := 41) rfl))) (by decide) (backOf (W := 0) (rmA l Z a0 hw [] fg (0 : Int32) v5 ga gb v66 v101 v60 aP aS aQ r96.1 r69.2.2.1 r96.2 r104 h97 n0 Z97 Xfg_97 Ffg_parent_97 Ffg_size_97 Ffg_parallelism_97 J97_0 IaS_97 J97_1 ge_aP ge_aS ge_aQ ne_aP_aS ne_aP_aQ ne_aS_aQ ne_fg_aP ne_fg_aS ne_fg_aQ hr104) hZ (hw _ (List.mem_of_getElem? (i := 41) rfl)) (hw _ (List.mem_of_getElem? (i := 18) rfl)) (by decide) (by decide)) (g := (mkF m 356 #[.val (.int p0), .val (.int p1), .val (.int p2), .val (.int p3), .val (.int va), .val (.int vb), .val (.int v5), .val (.int v9), .val (.int v13), .val (.ref fg), .val (.int ga), .val (.int gb), .val (.int v36), .val (.int v42), .val (.int v55), .val (.int v60), .val (.int v66), .val (.int r69.1), .val (.int v78), .val (.int v82), .val (.int r85.1), .val (.int v93), .val (.int v101)] [(.int v60), (.int v101), (.int v66), (.int gb), (.int ga), (.int v5), (.int (0 : Int32)), (.ref fg)])) rfl (by rw [hml]; rfl) (argsL := [(.ref fg), (.int (0 : Int32)), (.int v5), (.int ga), (.int gb), (.int v66), (.int v101), (.int v60)]) (rest := []) (lenOf pd_5 rfl) rfl (by show 2 * 0 + _ ≤ _; exact Nat.le_of_eq rfl) (hb hby at_356) (fun _ _ => ⟨rfl, e97, (by decide : 4 + 0 ≤ _), (by decide : 15 + 0 ≤ _)⟩)
      dsimp only [Pt.U, Pt.locs, Pt.cells, Pt.slots] at X105 l105 y105 z105 st105 hQ105
      subst l105 y105 z105
      obtain ⟨rfl, N105q, K105, J105_0⟩ := hQ105
      have N105 := Fr.app N97 N105q
      have IaS_105 := IaS_97.keep K105 (ninS (Ne.symm ne_aP_aS) nin0)
      have IaQ_105 := J97_1.keep K105 (ninS (Ne.symm ne_aP_aQ) nin0)
      have Xfg_105 := Xfg_97.keep K105
      have Ffg_parent_105 := Ffg_parent_97.keep K105 (ninS ne_fg_aP nin0)
      have Ffg_size_105 := Ffg_size_97.keep K105 (ninS ne_fg_aP nin0)
      have Ffg_parallelism_105 := Ffg_parallelism_97.keep K105 (ninS ne_fg_aP nin0)
      have Z105 : n0 ≤ T105.heap.size := Nat.le_trans Z97 K105.1
      have q106 : Steps p.tables e below (s₁.setTop (entryFrame m #[(.int p0), (.int p1), (.int p2), (.int p3)] maxLocals)) (T105.setTop (mkF m 359 #[.val (.int p0), .val (.int p1), .val (.int p2), .val (.int p3), .val (.int va), .val (.int vb), .val (.int v5), .val (.int v9), .val (.int v13), .val (.ref fg), .val (.int ga), .val (.int gb), .val (.int v36), .val (.int v42), .val (.int v55), .val (.int v60), .val (.int v66), .val (.int r69.1), .val (.int v78), .val (.int v82), .val (.int r85.1), .val (.int v93), .val (.int v101)] [(.int r104.1)])) := q103.trans (st105 _ (Steps.refl _))
      by_cases hc107 : r104.1 = (0 : Int32)
      · rw [if_pos hc107] at hM
        have q108 : Steps p.tables e below (s₁.setTop (entryFrame m #[(.int p0), (.int p1), (.int p2), (.int p3)] maxLocals)) (T105.setTop (mkF m 429 #[.val (.int p0), .val (.int p1), .val (.int p2), .val (.int p3), .val (.int va), .val (.int vb), .val (.int v5), .val (.int v9), .val (.int v13), .val (.ref fg), .val (.int ga), .val (.int gb), .val (.int v36), .val (.int v42), .val (.int v55), .val (.int v60), .val (.int v66), .val (.int r69.1), .val (.int v78), .val (.int v82), .val (.int r85.1), .val (.int v93), .val (.int v101)] [])) := q106.trans (by
            show Steps p.tables e below (T105.setTop (mkF m 359 #[.val (.int p0), .val (.int p1), .val (.int p2), .val (.int p3), .val (.int va), .val (.int vb), .val (.int v5), .val (.int v9), .val (.int v13), .val (.ref fg), .val (.int ga), .val (.int gb), .val (.int v36), .val (.int v42), .val (.int v55), .val (.int v60), .val (.int v66), .val (.int r69.1), .val (.int v78), .val (.int v82), .val (.int r85.1), .val (.int v93), .val (.int v101)] [(.int r104.1)])) _
            refine XS.ifYes X105.here hx rfl (pc0 := 359) (pc' := 429) rfl (hb hby at_359) rfl ((if0 _ _).trans (teq hc107).1) (by decide) (by decide) ?_
            show Steps p.tables e below (T105.setTop (mkF m 429 #[.val (.int p0), .val (.int p1), .val (.int p2), .val (.int p3), .val (.int va), .val (.int vb), .val (.int v5), .val (.int v9), .val (.int v13), .val (.ref fg), .val (.int ga), .val (.int gb), .val (.int v36), .val (.int v42), .val (.int v55), .val (.int v60), .val (.int v66), .val (.int r69.1), .val (.int v78), .val (.int v82), .val (.int r85.1), .val (.int v93), .val (.int v101)] [])) _
            exact Steps.refl _)
        cases hM
      · rw [if_neg hc107] at hM
        have q109 : Steps p.tables e below (s₁.setTop (entryFrame m #[(.int p0), (.int p1), (.int p2), (.int p3)] maxLocals)) (T105.setTop (mkF m 362 #[.val (.int p0), .val (.int p1), .val (.int p2), .val (.int p3), .val (.int va), .val (.int vb), .val (.int v5), .val (.int v9), .val (.int v13), .val (.ref fg), .val (.int ga), .val (.int gb), .val (.int v36), .val (.int v42), .val (.int v55), .val (.int v60), .val (.int v66), .val (.int r69.1), .val (.int v78), .val (.int v82), .val (.int r85.1), .val (.int v93), .val (.int v101)] [])) := q106.trans (by
            show Steps p.tables e below (T105.setTop (mkF m 359 #[.val (.int p0), .val (.int p1), .val (.int p2), .val (.int p3), .val (.int va), .val (.int vb), .val (.int v5), .val (.int v9), .val (.int v13), .val (.ref fg), .val (.int ga), .val (.int gb), .val (.int v36), .val (.int v42), .val (.int v55), .val (.int v60), .val (.int v66), .val (.int r69.1), .val (.int v78), .val (.int v82), .val (.int r85.1), .val (.int v93), .val (.int v101)] [(.int r104.1)])) _
            refine XS.ifNo X105.here hx rfl (hb hby at_359) rfl ((if0 _ _).trans (feq hc107).1) ?_
            show Steps p.tables e below (T105.setTop (mkF m 362 #[.val (.int p0), .val (.int p1), .val (.int p2), .val (.int p3), .val (.int va), .val (.int vb), .val (.int v5), .val (.int v9), .val (.int v13), .val (.ref fg), .val (.int ga), .val (.int gb), .val (.int v36), .val (.int v42), .val (.int v55), .val (.int v60), .val (.int v66), .val (.int r69.1), .val (.int v78), .val (.int v82), .val (.int r85.1), .val (.int v93), .val (.int v101)] [])) _
            exact Steps.refl _)
        have q110 : Steps p.tables e below (s₁.setTop (entryFrame m #[(.int p0), (.int p1), (.int p2), (.int p3)] maxLocals)) (T105.setTop (mkF m 377 #[.val (.int p0), .val (.int p1), .val (.int p2), .val (.int p3), .val (.int va), .val (.int vb), .val (.int v5), .val (.int v9), .val (.int v13), .val (.ref fg), .val (.int ga), .val (.int gb), .val (.int v36), .val (.int v42), .val (.int v55), .val (.int v60), .val (.int v66), .val (.int r69.1), .val (.int v78), .val (.int v82), .val (.int r85.1), .val (.int v93), .val (.int v101)] [(.int v60), (.int v101), (.int v66), (.int gb), (.int ga), (.int v5), (.int (1 : Int32)), (.ref fg)])) := q109.trans (by
            show Steps p.tables e below (T105.setTop (mkF m 362 #[.val (.int p0), .val (.int p1), .val (.int p2), .val (.int p3), .val (.int va), .val (.int vb), .val (.int v5), .val (.int v9), .val (.int v13), .val (.ref fg), .val (.int ga), .val (.int gb), .val (.int v36), .val (.int v42), .val (.int v55), .val (.int v60), .val (.int v66), .val (.int r69.1), .val (.int v78), .val (.int v82), .val (.int r85.1), .val (.int v93), .val (.int v101)] [])) _
            refine XS.aload X105.here hx rfl (hb hby at_362) rfl rfl ?_
            show Steps p.tables e below (T105.setTop (mkF m 364 #[.val (.int p0), .val (.int p1), .val (.int p2), .val (.int p3), .val (.int va), .val (.int vb), .val (.int v5), .val (.int v9), .val (.int v13), .val (.ref fg), .val (.int ga), .val (.int gb), .val (.int v36), .val (.int v42), .val (.int v55), .val (.int v60), .val (.int v66), .val (.int r69.1), .val (.int v78), .val (.int v82), .val (.int r85.1), .val (.int v93), .val (.int v101)] [(.ref fg)])) _
            refine XS.iconst X105.here hx rfl (hb hby at_364) ?_
            show Steps p.tables e below (T105.setTop (mkF m 365 #[.val (.int p0), .val (.int p1), .val (.int p2), .val (.int p3), .val (.int va), .val (.int vb), .val (.int v5), .val (.int v9), .val (.int v13), .val (.ref fg), .val (.int ga), .val (.int gb), .val (.int v36), .val (.int v42), .val (.int v55), .val (.int v60), .val (.int v66), .val (.int r69.1), .val (.int v78), .val (.int v82), .val (.int r85.1), .val (.int v93), .val (.int v101)] [(.int (1 : Int32)), (.ref fg)])) _
            refine XS.iload X105.here hx rfl (hb hby at_365) rfl ?_
            show Steps p.tables e below (T105.setTop (mkF m 367 #[.val (.int p0), .val (.int p1), .val (.int p2), .val (.int p3), .val (.int va), .val (.int vb), .val (.int v5), .val (.int v9), .val (.int v13), .val (.ref fg), .val (.int ga), .val (.int gb), .val (.int v36), .val (.int v42), .val (.int v55), .val (.int v60), .val (.int v66), .val (.int r69.1), .val (.int v78), .val (.int v82), .val (.int r85.1), .val (.int v93), .val (.int v101)] [(.int v5), (.int (1 : Int32)), (.ref fg)])) _
            refine XS.iload X105.here hx rfl (hb hby at_367) rfl ?_
            show Steps p.tables e below (T105.setTop (mkF m 369 #[.val (.int p0), .val (.int p1), .val (.int p2), .val (.int p3), .val (.int va), .val (.int vb), .val (.int v5), .val (.int v9), .val (.int v13), .val (.ref fg), .val (.int ga), .val (.int gb), .val (.int v36), .val (.int v42), .val (.int v55), .val (.int v60), .val (.int v66), .val (.int r69.1), .val (.int v78), .val (.int v82), .val (.int r85.1), .val (.int v93), .val (.int v101)] [(.int ga), (.int v5), (.int (1 : Int32)), (.ref fg)])) _
            refine XS.iload X105.here hx rfl (hb hby at_369) rfl ?_
            show Steps p.tables e below (T105.setTop (mkF m 371 #[.val (.int p0), .val (.int p1), .val (.int p2), .val (.int p3), .val (.int va), .val (.int vb), .val (.int v5), .val (.int v9), .val (.int v13), .val (.ref fg), .val (.int ga), .val (.int gb), .val (.int v36), .val (.int v42), .val (.int v55), .val (.int v60), .val (.int v66), .val (.int r69.1), .val (.int v78), .val (.int v82), .val (.int r85.1), .val (.int v93), .val (.int v101)] [(.int gb), (.int ga), (.int v5), (.int (1 : Int32)), (.ref fg)])) _
            refine XS.iload X105.here hx rfl (hb hby at_371) rfl ?_
            show Steps p.tables e below (T105.setTop (mkF m 373 #[.val (.int p0), .val (.int p1), .val (.int p2), .val (.int p3), .val (.int va), .val (.int vb), .val (.int v5), .val (.int v9), .val (.int v13), .val (.ref fg), .val (.int ga), .val (.int gb), .val (.int v36), .val (.int v42), .val (.int v55), .val (.int v60), .val (.int v66), .val (.int r69.1), .val (.int v78), .val (.int v82), .val (.int r85.1), .val (.int v93), .val (.int v101)] [(.int v66), (.int gb), (.int ga), (.int v5), (.int (1 : Int32)), (.ref fg)])) _
            refine XS.iload X105.here hx rfl (hb hby at_373) rfl ?_
            show Steps p.tables e below (T105.setTop (mkF m 375 #[.val (.int p0), .val (.int p1), .val (.int p2), .val (.int p3), .val (.int va), .val (.int vb), .val (.int v5), .val (.int v9), .val (.int v13), .val (.ref fg), .val (.int ga), .val (.int gb), .val (.int v36), .val (.int v42), .val (.int v55), .val (.int v60), .val (.int v66), .val (.int r69.1), .val (.int v78), .val (.int v82), .val (.int r85.1), .val (.int v93), .val (.int v101)] [(.int v101), (.int v66), (.int gb), (.int ga), (.int v5), (.int (1 : Int32)), (.ref fg)])) _
            refine XS.iload X105.here hx rfl (hb hby at_375) rfl ?_
            show Steps p.tables e below (T105.setTop (mkF m 377 #[.val (.int p0), .val (.int p1), .val (.int p2), .val (.int p3), .val (.int va), .val (.int vb), .val (.int v5), .val (.int v9), .val (.int v13), .val (.ref fg), .val (.int ga), .val (.int gb), .val (.int v36), .val (.int v42), .val (.int v55), .val (.int v60), .val (.int v66), .val (.int r69.1), .val (.int v78), .val (.int v82), .val (.int r85.1), .val (.int v93), .val (.int v101)] [(.int v60), (.int v101), (.int v66), (.int gb), (.int ga), (.int v5), (.int (1 : Int32)), (.ref fg)])) _
            exact Steps.refl _)
        obtain ⟨r111, hr111, hM⟩ := Option.bind_eq_some_iff.mp hM
        obtain ⟨_, _, ⟨T112, L112, k112, n112⟩, -, X112, ⟨Lc112, hQ112, l112, y112, z112⟩, st112⟩ := Jvm.LawKit.callS X105 hx (y := (⟨"com/example/tideplan/tideplan/planner/ForwardGroupsJoinPinLaw", "at", "(Lcom/example/tideplan/tideplan/planner/ForwardGroups;IZIIZII)Z"⟩ : MethodName)) hown (mvT hZ (hw _ (List.mem_of_getElem? (i := 39) rfl))) (mvT hZ (hw _ (List.mem_of_getElem? (i := 40) rfl))) (mvT hZ (hw _ (List.mem_of_getElem? (i := 18) rfl))) (mvT hZ (hw _ (List.mem_of_getElem? (i := 41) rfl))) (by decide) (backOf (W := 0) (rmA l Z a0 hw [] fg (1 : Int32) v5 ga gb v66 v101 v60 aP aS aQ r104.2 r69.2.2.1 r96.2 r111 T105.heap n0 Z105 Xfg_105 Ffg_parent_105 Ffg_size_105 Ffg_parallelism_105 J105_0 IaS_105 IaQ_105 ge_aP ge_aS ge_aQ ne_aP_aS ne_aP_aQ ne_aS_aQ ne_fg_aP ne_fg_aS ne_fg_aQ hr111) hZ (hw _ (List.mem_of_getElem? (i := 41) rfl)) (hw _ (List.mem_of_getElem? (i := 18) rfl)) (by decide) (by decide)) (g := (mkF m 377 #[.val (.int p0), .val (.int p1), .val (.int p2), .val (.int p3), .val (.int va), .val (.int vb), .val (.int v5), .val (.int v9), .val (.int v13), .val (.ref fg), .val (.int ga), .val (.int gb), .val (.int v36), .val (.int v42), .val (.int v55), .val (.int v60), .val (.int v66), .val (.int r69.1), .val (.int v78), .val (.int v82), .val (.int r85.1), .val (.int v93), .val (.int v101)] [(.int v60), (.int v101), (.int v66), (.int gb), (.int ga), (.int v5), (.int (1 : Int32)), (.ref fg)])) rfl (by rw [hml]; rfl) (argsL := [(.ref fg), (.int (1 : Int32)), (.int v5), (.int ga), (.int gb), (.int v66), (.int v101), (.int v60)]) (rest := []) (lenOf pd_5 rfl) rfl (by show 2 * 0 + _ ≤ _; exact Nat.le_of_eq rfl) (hb hby at_377) (fun _ _ => ⟨rfl, rfl, (by decide : 4 + 0 ≤ _), (by decide : 15 + 0 ≤ _)⟩)
        dsimp only [Pt.U, Pt.locs, Pt.cells, Pt.slots] at X112 l112 y112 z112 st112 hQ112
        subst l112 y112 z112
        obtain ⟨rfl, N112q, K112, J112_0⟩ := hQ112
        have N112 := Fr.app N105 N112q
        have IaS_112 := IaS_105.keep K112 (ninS (Ne.symm ne_aP_aS) nin0)
        have IaQ_112 := IaQ_105.keep K112 (ninS (Ne.symm ne_aP_aQ) nin0)
        have Xfg_112 := Xfg_105.keep K112
        have Ffg_parent_112 := Ffg_parent_105.keep K112 (ninS ne_fg_aP nin0)
        have Ffg_size_112 := Ffg_size_105.keep K112 (ninS ne_fg_aP nin0)
        have Ffg_parallelism_112 := Ffg_parallelism_105.keep K112 (ninS ne_fg_aP nin0)
        have Z112 : n0 ≤ T112.heap.size := Nat.le_trans Z105 K112.1
        have q113 : Steps p.tables e below (s₁.setTop (entryFrame m #[(.int p0), (.int p1), (.int p2), (.int p3)] maxLocals)) (T112.setTop (mkF m 380 #[.val (.int p0), .val (.int p1), .val (.int p2), .val (.int p3), .val (.int va), .val (.int vb), .val (.int v5), .val (.int v9), .val (.int v13), .val (.ref fg), .val (.int ga), .val (.int gb), .val (.int v36), .val (.int v42), .val (.int v55), .val (.int v60), .val (.int v66), .val (.int r69.1), .val (.int v78), .val (.int v82), .val (.int r85.1), .val (.int v93), .val (.int v101)] [(.int r111.1)])) := q110.trans (st112 _ (Steps.refl _))
        by_cases hc114 : r111.1 = (0 : Int32)
        · rw [if_pos hc114] at hM
          have q115 : Steps p.tables e below (s₁.setTop (entryFrame m #[(.int p0), (.int p1), (.int p2), (.int p3)] maxLocals)) (T112.setTop (mkF m 429 #[.val (.int p0), .val (.int p1), .val (.int p2), .val (.int p3), .val (.int va), .val (.int vb), .val (.int v5), .val (.int v9), .val (.int v13), .val (.ref fg), .val (.int ga), .val (.int gb), .val (.int v36), .val (.int v42), .val (.int v55), .val (.int v60), .val (.int v66), .val (.int r69.1), .val (.int v78), .val (.int v82), .val (.int r85.1), .val (.int v93), .val (.int v101)] [])) := q113.trans (by
              show Steps p.tables e below (T112.setTop (mkF m 380 #[.val (.int p0), .val (.int p1), .val (.int p2), .val (.int p3), .val (.int va), .val (.int vb), .val (.int v5), .val (.int v9), .val (.int v13), .val (.ref fg), .val (.int ga), .val (.int gb), .val (.int v36), .val (.int v42), .val (.int v55), .val (.int v60), .val (.int v66), .val (.int r69.1), .val (.int v78), .val (.int v82), .val (.int r85.1), .val (.int v93), .val (.int v101)] [(.int r111.1)])) _
              refine XS.ifYes X112.here hx rfl (pc0 := 380) (pc' := 429) rfl (hb hby at_380) rfl ((if0 _ _).trans (teq hc114).1) (by decide) (by decide) ?_
              show Steps p.tables e below (T112.setTop (mkF m 429 #[.val (.int p0), .val (.int p1), .val (.int p2), .val (.int p3), .val (.int va), .val (.int vb), .val (.int v5), .val (.int v9), .val (.int v13), .val (.ref fg), .val (.int ga), .val (.int gb), .val (.int v36), .val (.int v42), .val (.int v55), .val (.int v60), .val (.int v66), .val (.int r69.1), .val (.int v78), .val (.int v82), .val (.int r85.1), .val (.int v93), .val (.int v101)] [])) _
              exact Steps.refl _)
          cases hM
        · rw [if_neg hc114] at hM
          have q116 : Steps p.tables e below (s₁.setTop (entryFrame m #[(.int p0), (.int p1), (.int p2), (.int p3)] maxLocals)) (T112.setTop (mkF m 383 #[.val (.int p0), .val (.int p1), .val (.int p2), .val (.int p3), .val (.int va), .val (.int vb), .val (.int v5), .val (.int v9), .val (.int v13), .val (.ref fg), .val (.int ga), .val (.int gb), .val (.int v36), .val (.int v42), .val (.int v55), .val (.int v60), .val (.int v66), .val (.int r69.1), .val (.int v78), .val (.int v82), .val (.int r85.1), .val (.int v93), .val (.int v101)] [])) := q113.trans (by
              show Steps p.tables e below (T112.setTop (mkF m 380 #[.val (.int p0), .val (.int p1), .val (.int p2), .val (.int p3), .val (.int va), .val (.int vb), .val (.int v5), .val (.int v9), .val (.int v13), .val (.ref fg), .val (.int ga), .val (.int gb), .val (.int v36), .val (.int v42), .val (.int v55), .val (.int v60), .val (.int v66), .val (.int r69.1), .val (.int v78), .val (.int v82), .val (.int r85.1), .val (.int v93), .val (.int v101)] [(.int r111.1)])) _
              refine XS.ifNo X112.here hx rfl (hb hby at_380) rfl ((if0 _ _).trans (feq hc114).1) ?_
              show Steps p.tables e below (T112.setTop (mkF m 383 #[.val (.int p0), .val (.int p1), .val (.int p2), .val (.int p3), .val (.int va), .val (.int vb), .val (.int v5), .val (.int v9), .val (.int v13), .val (.ref fg), .val (.int ga), .val (.int gb), .val (.int v36), .val (.int v42), .val (.int v55), .val (.int v60), .val (.int v66), .val (.int r69.1), .val (.int v78), .val (.int v82), .val (.int r85.1), .val (.int v93), .val (.int v101)] [])) _
              exact Steps.refl _)
          have q117 : Steps p.tables e below (s₁.setTop (entryFrame m #[(.int p0), (.int p1), (.int p2), (.int p3)] maxLocals)) (T112.setTop (mkF m 398 #[.val (.int p0), .val (.int p1), .val (.int p2), .val (.int p3), .val (.int va), .val (.int vb), .val (.int v5), .val (.int v9), .val (.int v13), .val (.ref fg), .val (.int ga), .val (.int gb), .val (.int v36), .val (.int v42), .val (.int v55), .val (.int v60), .val (.int v66), .val (.int r69.1), .val (.int v78), .val (.int v82), .val (.int r85.1), .val (.int v93), .val (.int v101)] [(.int v60), (.int v101), (.int v66), (.int gb), (.int ga), (.int v5), (.int (2 : Int32)), (.ref fg)])) := q116.trans (by
              show Steps p.tables e below (T112.setTop (mkF m 383 #[.val (.int p0), .val (.int p1), .val (.int p2), .val (.int p3), .val (.int va), .val (.int vb), .val (.int v5), .val (.int v9), .val (.int v13), .val (.ref fg), .val (.int ga), .val (.int gb), .val (.int v36), .val (.int v42), .val (.int v55), .val (.int v60), .val (.int v66), .val (.int r69.1), .val (.int v78), .val (.int v82), .val (.int r85.1), .val (.int v93), .val (.int v101)] [])) _
              refine XS.aload X112.here hx rfl (hb hby at_383) rfl rfl ?_
              show Steps p.tables e below (T112.setTop (mkF m 385 #[.val (.int p0), .val (.int p1), .val (.int p2), .val (.int p3), .val (.int va), .val (.int vb), .val (.int v5), .val (.int v9), .val (.int v13), .val (.ref fg), .val (.int ga), .val (.int gb), .val (.int v36), .val (.int v42), .val (.int v55), .val (.int v60), .val (.int v66), .val (.int r69.1), .val (.int v78), .val (.int v82), .val (.int r85.1), .val (.int v93), .val (.int v101)] [(.ref fg)])) _
              refine XS.iconst X112.here hx rfl (hb hby at_385) ?_
              show Steps p.tables e below (T112.setTop (mkF m 386 #[.val (.int p0), .val (.int p1), .val (.int p2), .val (.int p3), .val (.int va), .val (.int vb), .val (.int v5), .val (.int v9), .val (.int v13), .val (.ref fg), .val (.int ga), .val (.int gb), .val (.int v36), .val (.int v42), .val (.int v55), .val (.int v60), .val (.int v66), .val (.int r69.1), .val (.int v78), .val (.int v82), .val (.int r85.1), .val (.int v93), .val (.int v101)] [(.int (2 : Int32)), (.ref fg)])) _
              refine XS.iload X112.here hx rfl (hb hby at_386) rfl ?_
              show Steps p.tables e below (T112.setTop (mkF m 388 #[.val (.int p0), .val (.int p1), .val (.int p2), .val (.int p3), .val (.int va), .val (.int vb), .val (.int v5), .val (.int v9), .val (.int v13), .val (.ref fg), .val (.int ga), .val (.int gb), .val (.int v36), .val (.int v42), .val (.int v55), .val (.int v60), .val (.int v66), .val (.int r69.1), .val (.int v78), .val (.int v82), .val (.int r85.1), .val (.int v93), .val (.int v101)] [(.int v5), (.int (2 : Int32)), (.ref fg)])) _
              refine XS.iload X112.here hx rfl (hb hby at_388) rfl ?_
              show Steps p.tables e below (T112.setTop (mkF m 390 #[.val (.int p0), .val (.int p1), .val (.int p2), .val (.int p3), .val (.int va), .val (.int vb), .val (.int v5), .val (.int v9), .val (.int v13), .val (.ref fg), .val (.int ga), .val (.int gb), .val (.int v36), .val (.int v42), .val (.int v55), .val (.int v60), .val (.int v66), .val (.int r69.1), .val (.int v78), .val (.int v82), .val (.int r85.1), .val (.int v93), .val (.int v101)] [(.int ga), (.int v5), (.int (2 : Int32)), (.ref fg)])) _
              refine XS.iload X112.here hx rfl (hb hby at_390) rfl ?_
              show Steps p.tables e below (T112.setTop (mkF m 392 #[.val (.int p0), .val (.int p1), .val (.int p2), .val (.int p3), .val (.int va), .val (.int vb), .val (.int v5), .val (.int v9), .val (.int v13), .val (.ref fg), .val (.int ga), .val (.int gb), .val (.int v36), .val (.int v42), .val (.int v55), .val (.int v60), .val (.int v66), .val (.int r69.1), .val (.int v78), .val (.int v82), .val (.int r85.1), .val (.int v93), .val (.int v101)] [(.int gb), (.int ga), (.int v5), (.int (2 : Int32)), (.ref fg)])) _
              refine XS.iload X112.here hx rfl (hb hby at_392) rfl ?_
              show Steps p.tables e below (T112.setTop (mkF m 394 #[.val (.int p0), .val (.int p1), .val (.int p2), .val (.int p3), .val (.int va), .val (.int vb), .val (.int v5), .val (.int v9), .val (.int v13), .val (.ref fg), .val (.int ga), .val (.int gb), .val (.int v36), .val (.int v42), .val (.int v55), .val (.int v60), .val (.int v66), .val (.int r69.1), .val (.int v78), .val (.int v82), .val (.int r85.1), .val (.int v93), .val (.int v101)] [(.int v66), (.int gb), (.int ga), (.int v5), (.int (2 : Int32)), (.ref fg)])) _
              refine XS.iload X112.here hx rfl (hb hby at_394) rfl ?_
              show Steps p.tables e below (T112.setTop (mkF m 396 #[.val (.int p0), .val (.int p1), .val (.int p2), .val (.int p3), .val (.int va), .val (.int vb), .val (.int v5), .val (.int v9), .val (.int v13), .val (.ref fg), .val (.int ga), .val (.int gb), .val (.int v36), .val (.int v42), .val (.int v55), .val (.int v60), .val (.int v66), .val (.int r69.1), .val (.int v78), .val (.int v82), .val (.int r85.1), .val (.int v93), .val (.int v101)] [(.int v101), (.int v66), (.int gb), (.int ga), (.int v5), (.int (2 : Int32)), (.ref fg)])) _
              refine XS.iload X112.here hx rfl (hb hby at_396) rfl ?_
              show Steps p.tables e below (T112.setTop (mkF m 398 #[.val (.int p0), .val (.int p1), .val (.int p2), .val (.int p3), .val (.int va), .val (.int vb), .val (.int v5), .val (.int v9), .val (.int v13), .val (.ref fg), .val (.int ga), .val (.int gb), .val (.int v36), .val (.int v42), .val (.int v55), .val (.int v60), .val (.int v66), .val (.int r69.1), .val (.int v78), .val (.int v82), .val (.int r85.1), .val (.int v93), .val (.int v101)] [(.int v60), (.int v101), (.int v66), (.int gb), (.int ga), (.int v5), (.int (2 : Int32)), (.ref fg)])) _
              exact Steps.refl _)
          obtain ⟨r118, hr118, hM⟩ := Option.bind_eq_some_iff.mp hM
          obtain ⟨_, _, ⟨T119, L119, k119, n119⟩, -, X119, ⟨Lc119, hQ119, l119, y119, z119⟩, st119⟩ := Jvm.LawKit.callS X112 hx (y := (⟨"com/example/tideplan/tideplan/planner/ForwardGroupsJoinPinLaw", "at", "(Lcom/example/tideplan/tideplan/planner/ForwardGroups;IZIIZII)Z"⟩ : MethodName)) hown (mvT hZ (hw _ (List.mem_of_getElem? (i := 39) rfl))) (mvT hZ (hw _ (List.mem_of_getElem? (i := 40) rfl))) (mvT hZ (hw _ (List.mem_of_getElem? (i := 18) rfl))) (mvT hZ (hw _ (List.mem_of_getElem? (i := 41) rfl))) (by decide) (backOf (W := 0) (rmA l Z a0 hw [] fg (2 : Int32) v5 ga gb v66 v101 v60 aP aS aQ r111.2 r69.2.2.1 r96.2 r118 T112.heap n0 Z112 Xfg_112 Ffg_parent_112 Ffg_size_112 Ffg_parallelism_112 J112_0 IaS_112 IaQ_112 ge_aP ge_aS ge_aQ ne_aP_aS ne_aP_aQ ne_aS_aQ ne_fg_aP ne_fg_aS ne_fg_aQ hr118) hZ (hw _ (List.mem_of_getElem? (i := 41) rfl)) (hw _ (List.mem_of_getElem? (i := 18) rfl)) (by decide) (by decide)) (g := (mkF m 398 #[.val (.int p0), .val (.int p1), .val (.int p2), .val (.int p3), .val (.int va), .val (.int vb), .val (.int v5), .val (.int v9), .val (.int v13), .val (.ref fg), .val (.int ga), .val (.int gb), .val (.int v36), .val (.int v42), .val (.int v55), .val (.int v60), .val (.int v66), .val (.int r69.1), .val (.int v78), .val (.int v82), .val (.int r85.1), .val (.int v93), .val (.int v101)] [(.int v60), (.int v101), (.int v66), (.int gb), (.int ga), (.int v5), (.int (2 : Int32)), (.ref fg)])) rfl (by rw [hml]; rfl) (argsL := [(.ref fg), (.int (2 : Int32)), (.int v5), (.int ga), (.int gb), (.int v66), (.int v101), (.int v60)]) (rest := []) (lenOf pd_5 rfl) rfl (by show 2 * 0 + _ ≤ _; exact Nat.le_of_eq rfl) (hb hby at_398) (fun _ _ => ⟨rfl, rfl, (by decide : 4 + 0 ≤ _), (by decide : 15 + 0 ≤ _)⟩)
          dsimp only [Pt.U, Pt.locs, Pt.cells, Pt.slots] at X119 l119 y119 z119 st119 hQ119
          subst l119 y119 z119
          obtain ⟨rfl, N119q, K119, J119_0⟩ := hQ119
          have N119 := Fr.app N112 N119q
          have IaS_119 := IaS_112.keep K119 (ninS (Ne.symm ne_aP_aS) nin0)
          have IaQ_119 := IaQ_112.keep K119 (ninS (Ne.symm ne_aP_aQ) nin0)
          have Xfg_119 := Xfg_112.keep K119
          have Ffg_parent_119 := Ffg_parent_112.keep K119 (ninS ne_fg_aP nin0)
          have Ffg_size_119 := Ffg_size_112.keep K119 (ninS ne_fg_aP nin0)
          have Ffg_parallelism_119 := Ffg_parallelism_112.keep K119 (ninS ne_fg_aP nin0)
          have Z119 : n0 ≤ T119.heap.size := Nat.le_trans Z112 K119.1
          have q120 : Steps p.tables e below (s₁.setTop (entryFrame m #[(.int p0), (.int p1), (.int p2), (.int p3)] maxLocals)) (T119.setTop (mkF m 401 #[.val (.int p0), .val (.int p1), .val (.int p2), .val (.int p3), .val (.int va), .val (.int vb), .val (.int v5), .val (.int v9), .val (.int v13), .val (.ref fg), .val (.int ga), .val (.int gb), .val (.int v36), .val (.int v42), .val (.int v55), .val (.int v60), .val (.int v66), .val (.int r69.1), .val (.int v78), .val (.int v82), .val (.int r85.1), .val (.int v93), .val (.int v101)] [(.int r118.1)])) := q117.trans (st119 _ (Steps.refl _))
          by_cases hc121 : r118.1 = (0 : Int32)
          · rw [if_pos hc121] at hM
            have q122 : Steps p.tables e below (s₁.setTop (entryFrame m #[(.int p0), (.int p1), (.int p2), (.int p3)] maxLocals)) (T119.setTop (mkF m 429 #[.val (.int p0), .val (.int p1), .val (.int p2), .val (.int p3), .val (.int va), .val (.int vb), .val (.int v5), .val (.int v9), .val (.int v13), .val (.ref fg), .val (.int ga), .val (.int gb), .val (.int v36), .val (.int v42), .val (.int v55), .val (.int v60), .val (.int v66), .val (.int r69.1), .val (.int v78), .val (.int v82), .val (.int r85.1), .val (.int v93), .val (.int v101)] [])) := q120.trans (by
                show Steps p.tables e below (T119.setTop (mkF m 401 #[.val (.int p0), .val (.int p1), .val (.int p2), .val (.int p3), .val (.int va), .val (.int vb), .val (.int v5), .val (.int v9), .val (.int v13), .val (.ref fg), .val (.int ga), .val (.int gb), .val (.int v36), .val (.int v42), .val (.int v55), .val (.int v60), .val (.int v66), .val (.int r69.1), .val (.int v78), .val (.int v82), .val (.int r85.1), .val (.int v93), .val (.int v101)] [(.int r118.1)])) _
                refine XS.ifYes X119.here hx rfl (pc0 := 401) (pc' := 429) rfl (hb hby at_401) rfl ((if0 _ _).trans (teq hc121).1) (by decide) (by decide) ?_
                show Steps p.tables e below (T119.setTop (mkF m 429 #[.val (.int p0), .val (.int p1), .val (.int p2), .val (.int p3), .val (.int va), .val (.int vb), .val (.int v5), .val (.int v9), .val (.int v13), .val (.ref fg), .val (.int ga), .val (.int gb), .val (.int v36), .val (.int v42), .val (.int v55), .val (.int v60), .val (.int v66), .val (.int r69.1), .val (.int v78), .val (.int v82), .val (.int r85.1), .val (.int v93), .val (.int v101)] [])) _
                exact Steps.refl _)
            cases hM
          · rw [if_neg hc121] at hM
            have q123 : Steps p.tables e below (s₁.setTop (entryFrame m #[(.int p0), (.int p1), (.int p2), (.int p3)] maxLocals)) (T119.setTop (mkF m 404 #[.val (.int p0), .val (.int p1), .val (.int p2), .val (.int p3), .val (.int va), .val (.int vb), .val (.int v5), .val (.int v9), .val (.int v13), .val (.ref fg), .val (.int ga), .val (.int gb), .val (.int v36), .val (.int v42), .val (.int v55), .val (.int v60), .val (.int v66), .val (.int r69.1), .val (.int v78), .val (.int v82), .val (.int r85.1), .val (.int v93), .val (.int v101)] [])) := q120.trans (by
                show Steps p.tables e below (T119.setTop (mkF m 401 #[.val (.int p0), .val (.int p1), .val (.int p2), .val (.int p3), .val (.int va), .val (.int vb), .val (.int v5), .val (.int v9), .val (.int v13), .val (.ref fg), .val (.int ga), .val (.int gb), .val (.int v36), .val (.int v42), .val (.int v55), .val (.int v60), .val (.int v66), .val (.int r69.1), .val (.int v78), .val (.int v82), .val (.int r85.1), .val (.int v93), .val (.int v101)] [(.int r118.1)])) _
                refine XS.ifNo X119.here hx rfl (hb hby at_401) rfl ((if0 _ _).trans (feq hc121).1) ?_
                show Steps p.tables e below (T119.setTop (mkF m 404 #[.val (.int p0), .val (.int p1), .val (.int p2), .val (.int p3), .val (.int va), .val (.int vb), .val (.int v5), .val (.int v9), .val (.int v13), .val (.ref fg), .val (.int ga), .val (.int gb), .val (.int v36), .val (.int v42), .val (.int v55), .val (.int v60), .val (.int v66), .val (.int r69.1), .val (.int v78), .val (.int v82), .val (.int r85.1), .val (.int v93), .val (.int v101)] [])) _
                exact Steps.refl _)
            have q124 : Steps p.tables e below (s₁.setTop (entryFrame m #[(.int p0), (.int p1), (.int p2), (.int p3)] maxLocals)) (T119.setTop (mkF m 419 #[.val (.int p0), .val (.int p1), .val (.int p2), .val (.int p3), .val (.int va), .val (.int vb), .val (.int v5), .val (.int v9), .val (.int v13), .val (.ref fg), .val (.int ga), .val (.int gb), .val (.int v36), .val (.int v42), .val (.int v55), .val (.int v60), .val (.int v66), .val (.int r69.1), .val (.int v78), .val (.int v82), .val (.int r85.1), .val (.int v93), .val (.int v101)] [(.int v60), (.int v101), (.int v66), (.int gb), (.int ga), (.int v5), (.int (3 : Int32)), (.ref fg)])) := q123.trans (by
                show Steps p.tables e below (T119.setTop (mkF m 404 #[.val (.int p0), .val (.int p1), .val (.int p2), .val (.int p3), .val (.int va), .val (.int vb), .val (.int v5), .val (.int v9), .val (.int v13), .val (.ref fg), .val (.int ga), .val (.int gb), .val (.int v36), .val (.int v42), .val (.int v55), .val (.int v60), .val (.int v66), .val (.int r69.1), .val (.int v78), .val (.int v82), .val (.int r85.1), .val (.int v93), .val (.int v101)] [])) _
                refine XS.aload X119.here hx rfl (hb hby at_404) rfl rfl ?_
                show Steps p.tables e below (T119.setTop (mkF m 406 #[.val (.int p0), .val (.int p1), .val (.int p2), .val (.int p3), .val (.int va), .val (.int vb), .val (.int v5), .val (.int v9), .val (.int v13), .val (.ref fg), .val (.int ga), .val (.int gb), .val (.int v36), .val (.int v42), .val (.int v55), .val (.int v60), .val (.int v66), .val (.int r69.1), .val (.int v78), .val (.int v82), .val (.int r85.1), .val (.int v93), .val (.int v101)] [(.ref fg)])) _
                refine XS.iconst X119.here hx rfl (hb hby at_406) ?_
                show Steps p.tables e below (T119.setTop (mkF m 407 #[.val (.int p0), .val (.int p1), .val (.int p2), .val (.int p3), .val (.int va), .val (.int vb), .val (.int v5), .val (.int v9), .val (.int v13), .val (.ref fg), .val (.int ga), .val (.int gb), .val (.int v36), .val (.int v42), .val (.int v55), .val (.int v60), .val (.int v66), .val (.int r69.1), .val (.int v78), .val (.int v82), .val (.int r85.1), .val (.int v93), .val (.int v101)] [(.int (3 : Int32)), (.ref fg)])) _
                refine XS.iload X119.here hx rfl (hb hby at_407) rfl ?_
                show Steps p.tables e below (T119.setTop (mkF m 409 #[.val (.int p0), .val (.int p1), .val (.int p2), .val (.int p3), .val (.int va), .val (.int vb), .val (.int v5), .val (.int v9), .val (.int v13), .val (.ref fg), .val (.int ga), .val (.int gb), .val (.int v36), .val (.int v42), .val (.int v55), .val (.int v60), .val (.int v66), .val (.int r69.1), .val (.int v78), .val (.int v82), .val (.int r85.1), .val (.int v93), .val (.int v101)] [(.int v5), (.int (3 : Int32)), (.ref fg)])) _
                refine XS.iload X119.here hx rfl (hb hby at_409) rfl ?_
                show Steps p.tables e below (T119.setTop (mkF m 411 #[.val (.int p0), .val (.int p1), .val (.int p2), .val (.int p3), .val (.int va), .val (.int vb), .val (.int v5), .val (.int v9), .val (.int v13), .val (.ref fg), .val (.int ga), .val (.int gb), .val (.int v36), .val (.int v42), .val (.int v55), .val (.int v60), .val (.int v66), .val (.int r69.1), .val (.int v78), .val (.int v82), .val (.int r85.1), .val (.int v93), .val (.int v101)] [(.int ga), (.int v5), (.int (3 : Int32)), (.ref fg)])) _
                refine XS.iload X119.here hx rfl (hb hby at_411) rfl ?_
                show Steps p.tables e below (T119.setTop (mkF m 413 #[.val (.int p0), .val (.int p1), .val (.int p2), .val (.int p3), .val (.int va), .val (.int vb), .val (.int v5), .val (.int v9), .val (.int v13), .val (.ref fg), .val (.int ga), .val (.int gb), .val (.int v36), .val (.int v42), .val (.int v55), .val (.int v60), .val (.int v66), .val (.int r69.1), .val (.int v78), .val (.int v82), .val (.int r85.1), .val (.int v93), .val (.int v101)] [(.int gb), (.int ga), (.int v5), (.int (3 : Int32)), (.ref fg)])) _
                refine XS.iload X119.here hx rfl (hb hby at_413) rfl ?_
                show Steps p.tables e below (T119.setTop (mkF m 415 #[.val (.int p0), .val (.int p1), .val (.int p2), .val (.int p3), .val (.int va), .val (.int vb), .val (.int v5), .val (.int v9), .val (.int v13), .val (.ref fg), .val (.int ga), .val (.int gb), .val (.int v36), .val (.int v42), .val (.int v55), .val (.int v60), .val (.int v66), .val (.int r69.1), .val (.int v78), .val (.int v82), .val (.int r85.1), .val (.int v93), .val (.int v101)] [(.int v66), (.int gb), (.int ga), (.int v5), (.int (3 : Int32)), (.ref fg)])) _
                refine XS.iload X119.here hx rfl (hb hby at_415) rfl ?_
                show Steps p.tables e below (T119.setTop (mkF m 417 #[.val (.int p0), .val (.int p1), .val (.int p2), .val (.int p3), .val (.int va), .val (.int vb), .val (.int v5), .val (.int v9), .val (.int v13), .val (.ref fg), .val (.int ga), .val (.int gb), .val (.int v36), .val (.int v42), .val (.int v55), .val (.int v60), .val (.int v66), .val (.int r69.1), .val (.int v78), .val (.int v82), .val (.int r85.1), .val (.int v93), .val (.int v101)] [(.int v101), (.int v66), (.int gb), (.int ga), (.int v5), (.int (3 : Int32)), (.ref fg)])) _
                refine XS.iload X119.here hx rfl (hb hby at_417) rfl ?_
                show Steps p.tables e below (T119.setTop (mkF m 419 #[.val (.int p0), .val (.int p1), .val (.int p2), .val (.int p3), .val (.int va), .val (.int vb), .val (.int v5), .val (.int v9), .val (.int v13), .val (.ref fg), .val (.int ga), .val (.int gb), .val (.int v36), .val (.int v42), .val (.int v55), .val (.int v60), .val (.int v66), .val (.int r69.1), .val (.int v78), .val (.int v82), .val (.int r85.1), .val (.int v93), .val (.int v101)] [(.int v60), (.int v101), (.int v66), (.int gb), (.int ga), (.int v5), (.int (3 : Int32)), (.ref fg)])) _
                exact Steps.refl _)
            obtain ⟨r125, hr125, hM⟩ := Option.bind_eq_some_iff.mp hM
            obtain ⟨_, _, ⟨T126, L126, k126, n126⟩, -, X126, ⟨Lc126, hQ126, l126, y126, z126⟩, st126⟩ := Jvm.LawKit.callS X119 hx (y := (⟨"com/example/tideplan/tideplan/planner/ForwardGroupsJoinPinLaw", "at", "(Lcom/example/tideplan/tideplan/planner/ForwardGroups;IZIIZII)Z"⟩ : MethodName)) hown (mvT hZ (hw _ (List.mem_of_getElem? (i := 39) rfl))) (mvT hZ (hw _ (List.mem_of_getElem? (i := 40) rfl))) (mvT hZ (hw _ (List.mem_of_getElem? (i := 18) rfl))) (mvT hZ (hw _ (List.mem_of_getElem? (i := 41) rfl))) (by decide) (backOf (W := 0) (rmA l Z a0 hw [] fg (3 : Int32) v5 ga gb v66 v101 v60 aP aS aQ r118.2 r69.2.2.1 r96.2 r125 T119.heap n0 Z119 Xfg_119 Ffg_parent_119 Ffg_size_119 Ffg_parallelism_119 J119_0 IaS_119 IaQ_119 ge_aP ge_aS ge_aQ ne_aP_aS ne_aP_aQ ne_aS_aQ ne_fg_aP ne_fg_aS ne_fg_aQ hr125) hZ (hw _ (List.mem_of_getElem? (i := 41) rfl)) (hw _ (List.mem_of_getElem? (i := 18) rfl)) (by decide) (by decide)) (g := (mkF m 419 #[.val (.int p0), .val (.int p1), .val (.int p2), .val (.int p3), .val (.int va), .val (.int vb), .val (.int v5), .val (.int v9), .val (.int v13), .val (.ref fg), .val (.int ga), .val (.int gb), .val (.int v36), .val (.int v42), .val (.int v55), .val (.int v60), .val (.int v66), .val (.int r69.1), .val (.int v78), .val (.int v82), .val (.int r85.1), .val (.int v93), .val (.int v101)] [(.int v60), (.int v101), (.int v66), (.int gb), (.int ga), (.int v5), (.int (3 : Int32)), (.ref fg)])) rfl (by rw [hml]; rfl) (argsL := [(.ref fg), (.int (3 : Int32)), (.int v5), (.int ga), (.int gb), (.int v66), (.int v101), (.int v60)]) (rest := []) (lenOf pd_5 rfl) rfl (by show 2 * 0 + _ ≤ _; exact Nat.le_of_eq rfl) (hb hby at_419) (fun _ _ => ⟨rfl, rfl, (by decide : 4 + 0 ≤ _), (by decide : 15 + 0 ≤ _)⟩)
            dsimp only [Pt.U, Pt.locs, Pt.cells, Pt.slots] at X126 l126 y126 z126 st126 hQ126
            subst l126 y126 z126
            obtain ⟨rfl, N126q, K126, J126_0⟩ := hQ126
            have N126 := Fr.app N119 N126q
            have IaS_126 := IaS_119.keep K126 (ninS (Ne.symm ne_aP_aS) nin0)
            have IaQ_126 := IaQ_119.keep K126 (ninS (Ne.symm ne_aP_aQ) nin0)
            have Xfg_126 := Xfg_119.keep K126
            have Ffg_parent_126 := Ffg_parent_119.keep K126 (ninS ne_fg_aP nin0)
            have Ffg_size_126 := Ffg_size_119.keep K126 (ninS ne_fg_aP nin0)
            have Ffg_parallelism_126 := Ffg_parallelism_119.keep K126 (ninS ne_fg_aP nin0)
            have Z126 : n0 ≤ T126.heap.size := Nat.le_trans Z119 K126.1
            have q127 : Steps p.tables e below (s₁.setTop (entryFrame m #[(.int p0), (.int p1), (.int p2), (.int p3)] maxLocals)) (T126.setTop (mkF m 422 #[.val (.int p0), .val (.int p1), .val (.int p2), .val (.int p3), .val (.int va), .val (.int vb), .val (.int v5), .val (.int v9), .val (.int v13), .val (.ref fg), .val (.int ga), .val (.int gb), .val (.int v36), .val (.int v42), .val (.int v55), .val (.int v60), .val (.int v66), .val (.int r69.1), .val (.int v78), .val (.int v82), .val (.int r85.1), .val (.int v93), .val (.int v101)] [(.int r125.1)])) := q124.trans (st126 _ (Steps.refl _))
            by_cases hc128 : r125.1 = (0 : Int32)
            · rw [if_pos hc128] at hM
              have q129 : Steps p.tables e below (s₁.setTop (entryFrame m #[(.int p0), (.int p1), (.int p2), (.int p3)] maxLocals)) (T126.setTop (mkF m 429 #[.val (.int p0), .val (.int p1), .val (.int p2), .val (.int p3), .val (.int va), .val (.int vb), .val (.int v5), .val (.int v9), .val (.int v13), .val (.ref fg), .val (.int ga), .val (.int gb), .val (.int v36), .val (.int v42), .val (.int v55), .val (.int v60), .val (.int v66), .val (.int r69.1), .val (.int v78), .val (.int v82), .val (.int r85.1), .val (.int v93), .val (.int v101)] [])) := q127.trans (by
                  show Steps p.tables e below (T126.setTop (mkF m 422 #[.val (.int p0), .val (.int p1), .val (.int p2), .val (.int p3), .val (.int va), .val (.int vb), .val (.int v5), .val (.int v9), .val (.int v13), .val (.ref fg), .val (.int ga), .val (.int gb), .val (.int v36), .val (.int v42), .val (.int v55), .val (.int v60), .val (.int v66), .val (.int r69.1), .val (.int v78), .val (.int v82), .val (.int r85.1), .val (.int v93), .val (.int v101)] [(.int r125.1)])) _
                  refine XS.ifYes X126.here hx rfl (pc0 := 422) (pc' := 429) rfl (hb hby at_422) rfl ((if0 _ _).trans (teq hc128).1) (by decide) (by decide) ?_
                  show Steps p.tables e below (T126.setTop (mkF m 429 #[.val (.int p0), .val (.int p1), .val (.int p2), .val (.int p3), .val (.int va), .val (.int vb), .val (.int v5), .val (.int v9), .val (.int v13), .val (.ref fg), .val (.int ga), .val (.int gb), .val (.int v36), .val (.int v42), .val (.int v55), .val (.int v60), .val (.int v66), .val (.int r69.1), .val (.int v78), .val (.int v82), .val (.int r85.1), .val (.int v93), .val (.int v101)] [])) _
                  exact Steps.refl _)
              cases hM
            · rw [if_neg hc128] at hM
              have q130 : Steps p.tables e below (s₁.setTop (entryFrame m #[(.int p0), (.int p1), (.int p2), (.int p3)] maxLocals)) (T126.setTop (mkF m 425 #[.val (.int p0), .val (.int p1), .val (.int p2), .val (.int p3), .val (.int va), .val (.int vb), .val (.int v5), .val (.int v9), .val (.int v13), .val (.ref fg), .val (.int ga), .val (.int gb), .val (.int v36), .val (.int v42), .val (.int v55), .val (.int v60), .val (.int v66), .val (.int r69.1), .val (.int v78), .val (.int v82), .val (.int r85.1), .val (.int v93), .val (.int v101)] [])) := q127.trans (by
                  show Steps p.tables e below (T126.setTop (mkF m 422 #[.val (.int p0), .val (.int p1), .val (.int p2), .val (.int p3), .val (.int va), .val (.int vb), .val (.int v5), .val (.int v9), .val (.int v13), .val (.ref fg), .val (.int ga), .val (.int gb), .val (.int v36), .val (.int v42), .val (.int v55), .val (.int v60), .val (.int v66), .val (.int r69.1), .val (.int v78), .val (.int v82), .val (.int r85.1), .val (.int v93), .val (.int v101)] [(.int r125.1)])) _
                  refine XS.ifNo X126.here hx rfl (hb hby at_422) rfl ((if0 _ _).trans (feq hc128).1) ?_
                  show Steps p.tables e below (T126.setTop (mkF m 425 #[.val (.int p0), .val (.int p1), .val (.int p2), .val (.int p3), .val (.int va), .val (.int vb), .val (.int v5), .val (.int v9), .val (.int v13), .val (.ref fg), .val (.int ga), .val (.int gb), .val (.int v36), .val (.int v42), .val (.int v55), .val (.int v60), .val (.int v66), .val (.int r69.1), .val (.int v78), .val (.int v82), .val (.int r85.1), .val (.int v93), .val (.int v101)] [])) _
                  exact Steps.refl _)
              have q131 : Steps p.tables e below (s₁.setTop (entryFrame m #[(.int p0), (.int p1), (.int p2), (.int p3)] maxLocals)) (T126.setTop (mkF m 430 #[.val (.int p0), .val (.int p1), .val (.int p2), .val (.int p3), .val (.int va), .val (.int vb), .val (.int v5), .val (.int v9), .val (.int v13), .val (.ref fg), .val (.int ga), .val (.int gb), .val (.int v36), .val (.int v42), .val (.int v55), .val (.int v60), .val (.int v66), .val (.int r69.1), .val (.int v78), .val (.int v82), .val (.int r85.1), .val (.int v93), .val (.int v101)] [(.int (1 : Int32))])) := q130.trans (by
                  show Steps p.tables e below (T126.setTop (mkF m 425 #[.val (.int p0), .val (.int p1), .val (.int p2), .val (.int p3), .val (.int va), .val (.int vb), .val (.int v5), .val (.int v9), .val (.int v13), .val (.ref fg), .val (.int ga), .val (.int gb), .val (.int v36), .val (.int v42), .val (.int v55), .val (.int v60), .val (.int v66), .val (.int r69.1), .val (.int v78), .val (.int v82), .val (.int r85.1), .val (.int v93), .val (.int v101)] [])) _
                  refine XS.iconst X126.here hx rfl (hb hby at_425) ?_
                  show Steps p.tables e below (T126.setTop (mkF m 426 #[.val (.int p0), .val (.int p1), .val (.int p2), .val (.int p3), .val (.int va), .val (.int vb), .val (.int v5), .val (.int v9), .val (.int v13), .val (.ref fg), .val (.int ga), .val (.int gb), .val (.int v36), .val (.int v42), .val (.int v55), .val (.int v60), .val (.int v66), .val (.int r69.1), .val (.int v78), .val (.int v82), .val (.int r85.1), .val (.int v93), .val (.int v101)] [(.int (1 : Int32))])) _
                  refine XS.goto X126.here hx rfl (pc0 := 426) (pc' := 430) rfl (hb hby at_426) (by decide) (by decide) ?_
                  show Steps p.tables e below (T126.setTop (mkF m 430 #[.val (.int p0), .val (.int p1), .val (.int p2), .val (.int p3), .val (.int va), .val (.int vb), .val (.int v5), .val (.int v9), .val (.int v13), .val (.ref fg), .val (.int ga), .val (.int gb), .val (.int v36), .val (.int v42), .val (.int v55), .val (.int v60), .val (.int v66), .val (.int r69.1), .val (.int v78), .val (.int v82), .val (.int r85.1), .val (.int v93), .val (.int v101)] [(.int (1 : Int32))])) _
                  exact Steps.refl _)
              obtain rfl := Option.some.inj hM
              obtain ⟨fs, hr, hrun, hended, hW, hsame⟩ := X126.leave (v := some (.int (1 : Int32))) (fun h => by rw [Bd.returns] at h; cases h)
              refine ⟨_, _, q131.trans ?_, hrun, hended, _, _, rfl, ?_, ⟨_, rfl⟩, hW, hsame.mono (by decide) (by decide)⟩
              · exact retN X126 hx (t := .boolean) Bd.returns (by simp) (hb hby at_430) hr
              · show Q_rm0 Z p0 p1 p2 p3 _ h0 n0 _ T126.heap _
                exact ⟨rfl, N126⟩
    · rw [if_neg hc89] at hM
      have q132 : Steps p.tables e below (s₁.setTop (entryFrame m #[(.int p0), (.int p1), (.int p2), (.int p3)] maxLocals)) (T86.setTop (mkF m 300 #[.val (.int p0), .val (.int p1), .val (.int p2), .val (.int p3), .val (.int va), .val (.int vb), .val (.int v5), .val (.int v9), .val (.int v13), .val (.ref fg), .val (.int ga), .val (.int gb), .val (.int v36), .val (.int v42), .val (.int v55), .val (.int v60), .val (.int v66), .val (.int r69.1), .val (.int v78), .val (.int v82), .val (.int r85.1), .unset, .unset] [])) := q88.trans (by
          show Steps p.tables e below (T86.setTop (mkF m 297 #[.val (.int p0), .val (.int p1), .val (.int p2), .val (.int p3), .val (.int va), .val (.int vb), .val (.int v5), .val (.int v9), .val (.int v13), .val (.ref fg), .val (.int ga), .val (.int gb), .val (.int v36), .val (.int v42), .val (.int v55), .val (.int v60), .val (.int v66), .val (.int r69.1), .val (.int v78), .val (.int v82), .val (.int r85.1), .unset, .unset] [(.int v82), (.int r85.1)])) _
          refine XS.icmpNo X86.here hx rfl (hb hby at_297) rfl (feq hc89).1 ?_
          show Steps p.tables e below (T86.setTop (mkF m 300 #[.val (.int p0), .val (.int p1), .val (.int p2), .val (.int p3), .val (.int va), .val (.int vb), .val (.int v5), .val (.int v9), .val (.int v13), .val (.ref fg), .val (.int ga), .val (.int gb), .val (.int v36), .val (.int v42), .val (.int v55), .val (.int v60), .val (.int v66), .val (.int r69.1), .val (.int v78), .val (.int v82), .val (.int r85.1), .unset, .unset] [])) _
          exact Steps.refl _)
      cases hM

theorem own_rd_map (f : Int32 → Int32) (xs : List Int32) (j : Int32) : Own.rd (xs.map f) j = (Own.rd xs j).map f := by
  unfold Own.rd
  rw [List.length_map]
  by_cases h : 0 ≤ j.toInt ∧ j.toInt < (xs.length : Int)
  · rw [if_pos h, if_pos h]
    have hi : j.toNatClampNeg < xs.length := by simp only [Int32.toNatClampNeg]; omega
    simp [Own.gi, List.getD_eq_getElem?_getD, hi]
  · rw [if_neg h, if_neg h]; rfl
theorem own_wt_map (f : Int32 → Int32) (xs : List Int32) (j x : Int32) : Own.wt (xs.map f) j (f x) = (Own.wt xs j x).map (List.map f) := by
  unfold Own.wt
  rw [List.length_map]
  by_cases h : 0 ≤ j.toInt ∧ j.toInt < (xs.length : Int)
  · rw [if_pos h, if_pos h]; simp [Own.si, List.map_set]
  · rw [if_neg h, if_neg h]; rfl
section Sigma
variable (f : Int32 → Int32) (hf : ∀ x y, f x = f y ↔ x = y) (h1 : f (-1) = -1)
theorem own_neg (f : Int32 → Int32) (hf : ∀ x y, f x = f y ↔ x = y) (h1 : f (-1) = -1) (x : Int32) : f x = -1 ↔ x = -1 := by
  have := hf x (-1)
  rw [h1] at this; exact this
theorem own_find (p : Int32) (xP xS xQ xQ' : List Int32) : M_find p xP xS xQ = M_find p xP xS xQ' := rfl
theorem own_par (f : Int32 → Int32) (p : Int32) (xP xS xQ : List Int32) : M_par p xP xS (xQ.map f) = (M_par p xP xS xQ).map fun r => (f r.1, r.2) := by
  unfold M_par
  rw [own_find p xP xS (xQ.map f) xQ]
  cases M_find p xP xS xQ with
  | none => rfl
  | some r =>
    simp only [Option.bind_some, own_rd_map]
    cases Own.rd xQ r.1 <;> rfl
theorem own_set (f : Int32 → Int32) (hf : ∀ x y, f x = f y ↔ x = y) (h1 : f (-1) = -1) (p c : Int32) (xP xS xQ : List Int32) : M_set p (f c) xP xS (xQ.map f) = (M_set p c xP xS xQ).map fun r => (r.1, r.2.map f) := by
  unfold M_set
  rw [own_find p xP xS (xQ.map f) xQ]
  cases M_find p xP xS xQ with
  | none => rfl
  | some r =>
    simp only [Option.bind_some, own_rd_map]
    cases Own.rd xQ r.1 with
    | none => rfl
    | some v =>
      simp only [Option.map_some, Option.bind_some, own_neg f hf h1, hf, own_wt_map]
      cases Own.wt xQ r.1 c <;> (repeat' split) <;> rfl
theorem own_ite (f : Int32 → Int32) (c : Prop) [Decidable c] (a b : Int32) : (if c then f a else f b) = f (if c then a else b) := by split <;> rfl
theorem own_join (f : Int32 → Int32) (hf : ∀ x y, f x = f y ↔ x = y) (h1 : f (-1) = -1) (p q : Int32) (xP xS xQ : List Int32) : M_join p q xP xS (xQ.map f) = (M_join p q xP xS xQ).map fun r => (r.1, r.2.1, r.2.2.1, r.2.2.2.map f) := by
  unfold M_join
  rw [own_find p xP xS (xQ.map f) xQ]
  cases M_find p xP xS xQ with
  | none => rfl
  | some r =>
    simp only [Option.bind_some]
    rw [own_find q r.2 xS (xQ.map f) xQ]
    cases M_find q r.2 xS xQ with
    | none => rfl
    | some r' =>
      simp only [Option.bind_some, own_rd_map]
      cases Own.rd xQ r.1 with
      | none => rfl
      | some v =>
        simp only [Option.map_some, Option.bind_some]
        cases Own.rd xQ r'.1 with
        | none => rfl
        | some v' =>
          simp only [Option.map_some, Option.bind_some, own_neg f hf h1, hf, own_ite, own_wt_map]
          generalize (if v = -1 then (0 : Int32) else if v' = -1 then 0 else if v = v' then 0 else 1) = w
          by_cases hw : w = 0
          · rw [if_pos hw, if_pos hw]
            by_cases hr : r.1 = r'.1
            · rw [if_pos hr, if_pos hr]; rfl
            · rw [if_neg hr, if_neg hr]
              cases Own.rd xS r.1 with
              | none => rfl
              | some a =>
                simp only [Option.bind_some]
                cases Own.rd xS r'.1 with
                | none => rfl
                | some b =>
                  simp only [Option.bind_some]
                  generalize (if a < b then r'.1 else r.1) = lg
                  generalize (if lg = r.1 then r'.1 else r.1) = sm
                  cases Own.wt r'.2 sm lg with
                  | none => rfl
                  | some y =>
                    simp only [Option.bind_some]
                    cases Own.rd xS lg with
                    | none => rfl
                    | some c =>
                      simp only [Option.bind_some]
                      cases Own.rd xS sm with
                      | none => rfl
                      | some d =>
                        simp only [Option.bind_some]
                        cases Own.wt xS lg (c + d) with
                        | none => rfl
                        | some e =>
                          simp only [Option.bind_some]
                          cases Own.wt xQ lg (if v = -1 then v' else v) <;> rfl
          · rw [if_neg hw, if_neg hw]; rfl
theorem own_at (f : Int32 → Int32) (hf : ∀ x y, f x = f y ↔ x = y) (h1 : f (-1) = -1) (p1 p2 p3 p4 p5 a b : Int32) (xP xS xQ : List Int32) : M_at p1 p2 p3 p4 p5 (f a) (f b) xP xS (xQ.map f) = M_at p1 p2 p3 p4 p5 a b xP xS xQ := by
  unfold M_at
  simp only [Option.bind_some]
  have e : (if Fg p2 p1 = p4 then f b else (-1 : Int32)) = f (if Fg p2 p1 = p4 then b else -1) := by split <;> simp [h1]
  rw [e, own_ite, own_par]
  cases M_par p1 xP xS xQ with
  | none => rfl
  | some r => simp only [Option.map_some, Option.bind_some, hf]
theorem own_sg1 (f : Int32 → Int32) (hf : ∀ x y, f x = f y ↔ x = y) (h1 : f (-1) = -1) (l : Int32) (xP xS xQ : List Int32) : M_sg1 l xP xS (xQ.map f) = (M_sg1 l xP xS xQ).map fun r => (r.1, r.2.1, r.2.2.map f) := by
  unfold M_sg1
  rw [own_join f hf h1]
  split
  · rfl
  · cases M_join 2 3 xP xS xQ with
    | none => rfl
    | some r => simp only [Option.map_some, Option.bind_some]; split <;> rfl
theorem own_sg2 (f : Int32 → Int32) (hf : ∀ x y, f x = f y ↔ x = y) (h1 : f (-1) = -1) (l q c : Int32) (xP xS xQ : List Int32) : M_sg2 l q (f c) xP xS (xQ.map f) = (M_sg2 l q c xP xS xQ).map fun r => (r.1, r.2.map f) := by
  unfold M_sg2
  rw [own_set f hf h1]
  split
  · rfl
  · cases M_set q c xP xS xQ <;> rfl
theorem own_sg3 (f : Int32 → Int32) (hf : ∀ x y, f x = f y ↔ x = y) (h1 : f (-1) = -1) (l q c : Int32) (xP xS xQ : List Int32) : M_sg3 l q (f c) xP xS (xQ.map f) = (M_sg3 l q c xP xS xQ).map fun r => (r.1, r.2.map f) := own_sg2 f hf h1 l q c xP xS xQ
theorem own_sg4 (f : Int32 → Int32) (hf : ∀ x y, f x = f y ↔ x = y) (h1 : f (-1) = -1) (l q c : Int32) (xP xS xQ : List Int32) : M_sg4 l q (f c) xP xS (xQ.map f) = (M_sg4 l q c xP xS xQ).map fun r => (r.1, r.2.map f) := own_sg2 f hf h1 l q c xP xS xQ
theorem own_new (f : Int32 → Int32) (h1 : f (-1) = -1) : (M_new 3) = some ([0, 1, 2, 3], [1, 1, 1, 1], [-1, -1, -1, -1]) := by decide +kernel
theorem own_core (f : Int32 → Int32) (hf : ∀ x y, f x = f y ↔ x = y) (h1 : f (-1) = -1) (a b pre sA sB p1 p2 p3 : Int32) : M_core a b pre sA sB (f p1) (f p2) (f p3) = M_core a b pre sA sB p1 p2 p3 := by
  unfold M_core
  rw [own_new f h1]
  simp only [Option.bind_some]
  have e0 : ([-1, -1, -1, -1] : List Int32) = ([-1, -1, -1, -1] : List Int32).map f := by simp [h1]
  conv => lhs; rw [e0, own_sg1 f hf h1]
  cases M_sg1 pre [0, 1, 2, 3] [1, 1, 1, 1] [-1, -1, -1, -1] with
  | none => rfl
  | some r =>
    simp only [Option.map_some, Option.bind_some]
    generalize Fg pre a = ga
    generalize Fg pre b = gb
    generalize (if ga = gb then (1 : Int32) else 0) = same
    generalize (if sB = 0 then (0 : Int32) else if same = 0 then 1 else if sA = 0 then 1 else 0) = doB
    rw [own_sg2 f hf h1]
    cases M_sg2 sA a p1 r.1 r.2.1 r.2.2 with
    | none => rfl
    | some r2 =>
      simp only [Option.map_some, Option.bind_some]
      rw [own_sg3 f hf h1]
      cases M_sg3 doB b p2 r2.1 r.2.1 r2.2 with
      | none => rfl
      | some r3 =>
        simp only [Option.map_some, Option.bind_some]
        have e1 : (if doB = 0 then (-1 : Int32) else f p2) = f (if doB = 0 then -1 else p2) := by split <;> simp [h1]
        have e2 : (if same = 0 then (-1 : Int32) else f (if doB = 0 then -1 else p2)) = f (if same = 0 then -1 else (if doB = 0 then -1 else p2)) := by split <;> simp [h1]
        rw [e1, e2, own_ite]
        generalize (if sA = 0 then (if same = 0 then (-1 : Int32) else if doB = 0 then -1 else p2) else p1) = va
        rw [own_ite]
        generalize (if same = 0 then (if doB = 0 then (-1 : Int32) else p2) else va) = vb
        simp only [own_neg f hf h1, hf]
        generalize (if va = -1 then (0 : Int32) else if vb = -1 then 0 else if va = vb then 0 else 1) = apart
        rw [own_join f hf h1]
        cases M_join a b r3.1 r.2.1 r3.2 with
        | none => rfl
        | some r4 =>
          simp only [Option.map_some, Option.bind_some]
          by_cases hr : r4.1 = apart
          · rw [if_pos hr, if_pos hr]
          · rw [if_neg hr, if_neg hr]
            simp only [own_ite, own_par]
            generalize (if va = -1 then vb else va) = m
            generalize (if apart = 0 then m else va) = af
            cases M_par a r4.2.1 r4.2.2.1 r4.2.2.2 with
            | none => rfl
            | some r5 =>
              simp only [Option.map_some, Option.bind_some, hf]
              by_cases hq : r5.1 = af
              · rw [if_pos hq, if_pos hq]
                simp only [own_neg f hf h1]
                generalize (if af = -1 then (1 : Int32) else 0) = probe
                rw [own_sg4 f hf h1]
                cases M_sg4 probe a p3 r5.2 r4.2.2.1 r4.2.2.2 with
                | none => rfl
                | some r6 =>
                  simp only [Option.map_some, Option.bind_some, own_ite, own_at f hf h1]
              · rw [if_neg hq, if_neg hq]
end Sigma
def own_swap (u v z : Int32) : Int32 := if z = u then v else if z = v then u else z
theorem own_swap_inj (u v : Int32) : ∀ x y, own_swap u v x = own_swap u v y ↔ x = y := by
  intro x y
  unfold own_swap
  constructor
  · intro h
    repeat' split at h
    all_goals simp_all
  · rintro rfl; rfl
/-- one value more gets a code -/
theorem own_ext (f : Int32 → Int32) (hf : ∀ x y, f x = f y ↔ x = y) (us : List Int32) (c : Int32) (hc : c ∉ us) (x : Int32) :
    (∃ u ∈ us, f u = x) ∨ ∃ g : Int32 → Int32, (∀ x y, g x = g y ↔ x = y) ∧ (∀ u ∈ us, g u = f u) ∧ g c = x := by
  by_cases h : ∃ u ∈ us, f u = x
  · exact Or.inl h
  · refine Or.inr ⟨fun z => own_swap (f c) x (f z), fun a b => by rw [own_swap_inj]; exact hf a b, fun u hu => ?_, ?_⟩
    · have n1 : f u ≠ f c := fun q => hc ((hf u c).mp q ▸ hu)
      have n2 : f u ≠ x := fun q => h ⟨u, hu, q⟩
      show own_swap (f c) x (f u) = f u
      simp [own_swap, n1, n2]
    · show own_swap (f c) x (f c) = x
      simp [own_swap]
theorem own_codes (pa pb v : Int32) : ∃ (f : Int32 → Int32) (ca cb cv : Int32), (∀ x y, f x = f y ↔ x = y) ∧ f (-1) = -1 ∧ f ca = pa ∧ f cb = pb ∧ f cv = v ∧ ca ∈ ([-1, 0] : List Int32) ∧ cb ∈ ([-1, 0, 1] : List Int32) ∧ cv ∈ ([-1, 0, 1, 2] : List Int32) := by
  have s1 : ∃ (f : Int32 → Int32) (ca : Int32), (∀ x y, f x = f y ↔ x = y) ∧ f (-1) = -1 ∧ f ca = pa ∧ ca ∈ ([-1, 0] : List Int32) := by
    rcases own_ext id (fun _ _ => Iff.rfl) [-1] 0 (by decide) pa with ⟨u, hu, e⟩ | ⟨g, g1, g2, g3⟩
    · exact ⟨id, u, fun _ _ => Iff.rfl, rfl, e, by simp at hu; simp [hu]⟩
    · exact ⟨g, 0, g1, g2 _ (by simp), g3, by simp⟩
  obtain ⟨f, ca, f1, f2, f3, f4⟩ := s1
  have s2 : ∃ (g : Int32 → Int32) (cb : Int32), (∀ x y, g x = g y ↔ x = y) ∧ g (-1) = -1 ∧ g ca = pa ∧ g cb = pb ∧ cb ∈ ([-1, 0, 1] : List Int32) := by
    rcases own_ext f f1 [-1, 0] 1 (by decide) pb with ⟨u, hu, e⟩ | ⟨g, g1, g2, g3⟩
    · exact ⟨f, u, f1, f2, f3, e, by simp only [List.mem_cons, List.not_mem_nil, or_false] at hu ⊢; rcases hu with h | h <;> simp [h]⟩
    · refine ⟨g, 1, g1, by rw [g2 _ (by simp)]; exact f2, ?_, g3, by simp⟩
      rw [g2 _ f4]; exact f3
  obtain ⟨g, cb, g1, g2, g3, g4, g5⟩ := s2
  rcases own_ext g g1 [-1, 0, 1] 2 (by decide) v with ⟨u, hu, e⟩ | ⟨k, k1, k2, k3⟩
  · exact ⟨g, ca, cb, u, g1, g2, g3, g4, e, f4, g5, by simp only [List.mem_cons, List.not_mem_nil, or_false] at hu ⊢; rcases hu with h | h | h <;> simp [h]⟩
  · refine ⟨k, ca, cb, 2, k1, by rw [k2 _ (by simp)]; exact g2, ?_, ?_, k3, f4, g5, by simp⟩
    · rw [k2 _ (by simp only [List.mem_cons, List.not_mem_nil, or_false] at f4 ⊢; rcases f4 with h | h <;> simp [h])]; exact g3
    · rw [k2 _ g5]; exact g4

set_option maxRecDepth 100000 in
theorem own_all : (([0, 1, 2, 3] : List Int32).all fun a => ([0, 1, 2, 3] : List Int32).all fun b => ([0, 1] : List Int32).all fun x => ([0, 1] : List Int32).all fun y => ([0, 1] : List Int32).all fun z =>
    ([-1, 0] : List Int32).all fun c1 => ([-1, 0, 1] : List Int32).all fun c2 => ([-1, 0, 1, 2] : List Int32).all fun c3 => M_core a b x y z c1 c2 c3 == some 1) = true := by decide +kernel
theorem own_mask4 (x : Int32) : (x &&& (3 : Int32)) ∈ ([0, 1, 2, 3] : List Int32) := by
  have h := Jvm.Kit.i32_mask x 3 (k := 2) (by decide) (by decide)
  simp only [List.mem_cons, List.not_mem_nil, or_false, ← Int32.toInt_inj, h, show (0 : Int32).toInt = 0 from rfl, show (1 : Int32).toInt = 1 from rfl, show (2 : Int32).toInt = 2 from rfl, show (3 : Int32).toInt = 3 from rfl]
  omega
theorem own_bit (c : Prop) [Decidable c] : (if c then (0 : Int32) else 1) ∈ ([0, 1] : List Int32) := by split <;> simp
theorem own_law (p0 p1 p2 p3 : Int32) : M_law p0 p1 p2 p3 = some 1 := by
  unfold M_law
  simp only [Option.bind_some]
  obtain ⟨f, ca, cb, cv, hf, h1, rfl, rfl, rfl, m1, m2, m3⟩ := own_codes p1 p2 p3
  rw [own_core f hf h1]
  have h := own_all
  simp only [List.all_eq_true, beq_iff_eq] at h
  exact h _ (own_mask4 _) _ (own_mask4 _) _ (own_bit _) _ (own_bit _) _ (own_bit _) _ m1 _ m2 _ m3

set_option maxRecDepth 65536 in
set_option maxHeartbeats 40000000 in
theorem comes_1 {Post : Tables → Env → Array Value → State → Outcome → State → Prop} (hpost : ∀ tb e args s v u, (limb_1_1.after args s (.returned v) u = true ∧ limb_1_2.after args s (.returned v) u = true ∧ True) → FrameEnd s (.returned v) u (Jvm.fieldLocs frame_1_writes args s ++ Jvm.arrayLocs frame_1_arrays args s ++ Jvm.staticLocs frame_1_statics s) 16 128 → Post tb e args s (.returned v) u) :
    ArmFor flags0 classFile x code maxLocals ret World_1 tables_1 room_1 Calls_1 rest_1 Pre_1 Post := by
  intro l hfl _ _ p e ha hc hk s m args below hf hA hF happ hP
  obtain ⟨hcalls, hrest, hpre⟩ := hP
  obtain ⟨-, -, -, hnamed, -, -, -, hat⟩ := (Spec.applies_iff hf).mp happ
  obtain ⟨hg, hn⟩ := and_e (Cond.before_iff.mp (show (Jvm.Cond.and given_1 narrow_1).before args s = true from hpre))
  obtain ⟨hcount, hg0⟩ := and_e hg
  obtain ⟨ga0, hg1⟩ := and_e hg0
  obtain ⟨ga1, hg2⟩ := and_e hg1
  obtain ⟨ga2, hg3⟩ := and_e hg2
  obtain ⟨w0, w1, w2, w3, rfl⟩ : ∃ w0 w1 w2 w3 : Value, args = #[w0, w1, w2, w3] := by
    have hs : args.size = 4 := by simpa [Cond.value, given_1] using hcount
    obtain ⟨L⟩ := args
    match L, hs with
    | [w0, w1, w2, w3], _ => exact ⟨w0, w1, w2, w3, rfl⟩
  have hw := fun d (hd : d ∈ tables_1) => atoms_spec (ws := Jvm.Cond.code x code maxLocals ret :: tables_1) hat d (List.mem_cons_of_mem _ hd)
  have hfit : Fit s := fun {y c} hc i hi => by
    obtain ⟨ha, rfl⟩ := Array.getElem?_eq_some_iff.mp hc
    have q := List.all_eq_true.mp ((Array.all_eq_true_iff_forall_mem.mp hF) _ (Array.getElem_mem ha)) i (List.mem_range.mpr hi)
    simpa [Array.getElem?_eq_getElem hi] using q
  obtain ⟨i0, ei0⟩ := is_v ga0
  obtain rfl : w0 = (.int i0) := Option.some.inj ei0
  obtain ⟨i1, ei1⟩ := is_v ga1
  obtain rfl : w1 = (.int i1) := Option.some.inj ei1
  obtain ⟨i2, ei2⟩ := is_v ga2
  obtain rfl : w2 = (.int i2) := Option.some.inj ei2
  obtain ⟨i3, ei3⟩ := is_v hg3
  obtain rfl : w3 = (.int i3) := Option.some.inj ei3
  obtain ⟨n, o, h1, h2, h3, _, L, rfl, ⟨rfl, N⟩, hq⟩ := rm0 l s _ hw tables_1 i0 i1 i2 i3 (1 : Int32) s.heap s.heap.size (Nat.le_refl _) (own_law i0 i1 i2 i3) p e ha hc hk s m _ below hf ((Spec.applies_iff_loose hf).mp happ).1 ⟨rfl, State.Warmed39.refl s, rfl⟩ trivial
  refine ⟨n, _, h1, h2, h3, hpost _ _ _ _ _ _ ⟨Cond.after_iff.mpr rfl, Cond.after_iff.mpr (eq_i res_at (Term.int_eval (1)) rfl), trivial⟩ ⟨hq.1, hq.2.1, (hq.2.2.sift fun y hy => Or.inr (N y hy)).mono (by decide) (by decide)⟩⟩
theorem main_1_1 : Claimed_1_1 := comes_1 fun _ _ _ _ _ _ h hF => ⟨h.1, hF⟩
theorem main_1_2 : Claimed_1_2 := comes_1 fun _ _ _ _ _ _ h hF => ⟨h.2.1, hF⟩
end Jvm.Pilot.@@N@@
namespace Jvm.Pilot.@@N@@
open Jvm Jvm.ClassFile Sem Op Lib Jvm.Free Jvm.Stand Jvm.Pilot.@@N@@.Jvm.D
/-! MADE BY PROGRAM (witnessworld.py) out of the Statement's table words and the real class files: 9 classes; the members and pool entries that the words name. The judged class is class 1, her method 3. -/
namespace start1
open Jvm.ClassFile
def u (s : String) : CpInfo := .utf8 (stringToUtf16 s)
/-- a pool by its gaps: so many unusable entries, then the entry; so many at the end -/
def gap : Nat → List CpInfo → List CpInfo
  | 0, r => r
  | n + 1, r => .unusable :: gap n r
def poolList (es : List (Nat × CpInfo)) (last : Nat) : List CpInfo := es.foldr (fun e r => gap e.1 (e.2 :: r)) (gap last [])
def pool (es : List (Nat × CpInfo)) (last : Nat) : Array CpInfo := ⟨poolList es last⟩
def fileOf (pool : Array CpInfo) (this : Nat) (attrs : Array Attribute := #[]) (ms : Array MethodInfo := #[]) (fl : Nat := 33) (sup : Nat := 0) (ifs : Array Nat := #[]) (fds : Array FieldInfo := #[]) : ClassFile where
  minorVersion := 0
  majorVersion := 65
  constantPool := pool
  accessFlags := fl
  thisClass := this
  superClass := sup
  interfaces := ifs
  fields := fds
  methods := ms
  attributes := attrs
def plain (name : String) (sup : Option ClassId) : Class where
  name := name
  kind := .ordinary
  loader := none
  accessFlags := 33
  super := sup
  interfaces := #[]
  cf := none
  fields := #[]
  methods := #[]
  instanceTypes := #[]
  staticTypes := #[]
  resolved := #[]
  callSites := []
  init := .initialized
  statics := none
  mirror := none

def pool0 : Array CpInfo := pool [(5, u "<init>"), (0, u "()V"), (1, .class_ 10), (1, u "java/lang/Object")] 113

def k0c0 : Code := { maxStack := 0, maxLocals := 1, code := object_method_1_code, exceptionTable := #[], attributes := #[] }
def k0m0 : Method := { name := "<init>", desc := "()V", sig := { parameters := [], returnType := none }, accessFlags := 1, code := some k0c0 }
/-- java/lang/Object -/
def k0 : Class := { plain "java/lang/Object" none with
  accessFlags := 33
  interfaces := #[]
  cf := some (fileOf pool0 8 #[] #[{ accessFlags := 1, nameIndex := 5, descriptorIndex := 6, attributes := #[] }] 33 0 #[] #[])
  fields := #[]
  methods := #[k0m0]
  instanceTypes := #[]
  staticTypes := #[]
  resolved := Array.replicate 124 none
  statics := none }

def pool1 : Array CpInfo := pool [(2, .class_ 4), (1, u "java/lang/Object"), (0, u "<init>"), (0, u "()V"), (0, .methodref 8 9), (0, .class_ 10), (0, .nameAndType 11 12), (0, u "com/example/tideplan/tideplan/planner/ForwardGroupsJoinPinLaw"), (0, u "grp"), (0, u "(ZI)I"), (0, .methodref 14 15), (0, .class_ 16), (0, .nameAndType 17 18), (0, u "com/example/tideplan/tideplan/planner/ForwardGroups"), (0, u "parallelism"), (0, u "(I)I"), (0, .methodref 14 20), (0, .nameAndType 5 21), (0, u "(I)V"), (0, .methodref 14 23), (0, .nameAndType 24 25), (0, u "join"), (0, u "(II)Z"), (0, .methodref 14 27), (0, .nameAndType 28 29), (0, u "setParallelism"), (0, u "(II)V"), (0, .methodref 8 31), (0, .nameAndType 32 33), (0, u "at"), (0, u "(Lcom/example/tideplan/tideplan/planner/ForwardGroups;IZIIZII)Z"), (3, u "law"), (0, u "(IIII)Z")] 2

def k1m0 : Method := { name := "<init>", desc := "()V", sig := { parameters := [], returnType := none }, accessFlags := 1, code := none }
def k1c1 : Code := { maxStack := 2, maxLocals := 2, code := method_2_code, exceptionTable := #[], attributes := #[] }
def k1m1 : Method := { name := "grp", desc := "(ZI)I", sig := { parameters := [.boolean, .int], returnType := some .int }, accessFlags := 10, code := some k1c1 }
def k1c2 : Code := { maxStack := 2, maxLocals := 11, code := method_3_code, exceptionTable := #[], attributes := #[] }
def k1m2 : Method := { name := "at", desc := "(Lcom/example/tideplan/tideplan/planner/ForwardGroups;IZIIZII)Z", sig := { parameters := [(.object "com/example/tideplan/tideplan/planner/ForwardGroups"), .int, .boolean, .int, .int, .boolean, .int, .int], returnType := some .boolean }, accessFlags := 10, code := some k1c2 }
def k1c3 : Code := { maxStack := 8, maxLocals := 23, code := code, exceptionTable := #[], attributes := #[] }
def k1m3 : Method := { name := "law", desc := "(IIII)Z", sig := { parameters := [.int, .int, .int, .int], returnType := some .boolean }, accessFlags := 9, code := some k1c3 }
/-- com/example/tideplan/tideplan/planner/ForwardGroupsJoinPinLaw -/
def k1 : Class := { plain "com/example/tideplan/tideplan/planner/ForwardGroupsJoinPinLaw" (some 0) with
  accessFlags := 49
  interfaces := #[]
  cf := some (fileOf pool1 8 #[] #[{ accessFlags := 1, nameIndex := 5, descriptorIndex := 6, attributes := #[] }, { accessFlags := 10, nameIndex := 11, descriptorIndex := 12, attributes := #[] }, { accessFlags := 10, nameIndex := 32, descriptorIndex := 33, attributes := #[] }, { accessFlags := 9, nameIndex := 37, descriptorIndex := 38, attributes := #[] }] 49 2 #[] #[])
  fields := #[]
  methods := #[k1m0, k1m1, k1m2, k1m3]
  instanceTypes := #[]
  staticTypes := #[]
  resolved := Array.replicate 41 none
  statics := none }

def pool2 : Array CpInfo := pool [(1, .methodref 2 3), (0, .class_ 4), (0, .nameAndType 5 6), (0, u "java/lang/Object"), (0, u "<init>"), (0, u "()V"), (0, .fieldref 8 9), (0, .class_ 10), (0, .nameAndType 11 12), (0, u "com/example/tideplan/tideplan/planner/ForwardGroups"), (0, u "parent"), (0, u "[I"), (0, .fieldref 8 14), (0, .nameAndType 15 12), (0, u "size"), (0, .fieldref 8 17), (0, .nameAndType 18 12), (0, u "parallelism"), (26, u "(I)V"), (17, u "setParallelism"), (0, u "(II)V"), (20, u "join"), (0, u "(II)Z"), (9, .methodref 8 97), (0, .nameAndType 98 99), (0, u "find"), (0, u "(I)I")] 31

def k2c0 : Code := { maxStack := 3, maxLocals := 3, code := prog_35_method_1_code, exceptionTable := #[], attributes := #[] }
def k2m0 : Method := { name := "<init>", desc := "(I)V", sig := { parameters := [.int], returnType := none }, accessFlags := 0, code := some k2c0 }
def k2c1 : Code := { maxStack := 3, maxLocals := 2, code := prog_35_method_3_code, exceptionTable := #[], attributes := #[] }
def k2m1 : Method := { name := "parallelism", desc := "(I)I", sig := { parameters := [.int], returnType := some .int }, accessFlags := 0, code := some k2c1 }
def k2c2 : Code := { maxStack := 5, maxLocals := 5, code := prog_35_method_4_code, exceptionTable := #[], attributes := #[] }
def k2m2 : Method := { name := "setParallelism", desc := "(II)V", sig := { parameters := [.int, .int], returnType := none }, accessFlags := 0, code := some k2c2 }
def k2c3 : Code := { maxStack := 5, maxLocals := 10, code := prog_35_method_5_code, exceptionTable := #[], attributes := #[] }
def k2m3 : Method := { name := "join", desc := "(II)Z", sig := { parameters := [.int, .int], returnType := some .boolean }, accessFlags := 0, code := some k2c3 }
def k2c4 : Code := { maxStack := 5, maxLocals := 3, code := prog_35_method_6_code, exceptionTable := #[], attributes := #[] }
def k2m4 : Method := { name := "find", desc := "(I)I", sig := { parameters := [.int], returnType := some .int }, accessFlags := 2, code := some k2c4 }
/-- com/example/tideplan/tideplan/planner/ForwardGroups -/
def k2 : Class := { plain "com/example/tideplan/tideplan/planner/ForwardGroups" (some 0) with
  accessFlags := 48
  interfaces := #[]
  cf := some (fileOf pool2 8 #[] #[{ accessFlags := 0, nameIndex := 5, descriptorIndex := 45, attributes := #[] }, { accessFlags := 0, nameIndex := 18, descriptorIndex := 99, attributes := #[] }, { accessFlags := 0, nameIndex := 63, descriptorIndex := 64, attributes := #[] }, { accessFlags := 0, nameIndex := 85, descriptorIndex := 86, attributes := #[] }, { accessFlags := 2, nameIndex := 98, descriptorIndex := 99, attributes := #[] }] 48 2 #[] #[{ accessFlags := 18, nameIndex := 11, descriptorIndex := 12, attributes := #[] }, { accessFlags := 18, nameIndex := 15, descriptorIndex := 12, attributes := #[] }, { accessFlags := 18, nameIndex := 18, descriptorIndex := 12, attributes := #[] }])
  fields := #[{ name := "parent", type := (.array .int), accessFlags := 18, slot := 0, constantValue := 0 }, { name := "size", type := (.array .int), accessFlags := 18, slot := 1, constantValue := 0 }, { name := "parallelism", type := (.array .int), accessFlags := 18, slot := 2, constantValue := 0 }]
  methods := #[k2m0, k2m1, k2m2, k2m3, k2m4]
  instanceTypes := #[(.array .int), (.array .int), (.array .int)]
  staticTypes := #[]
  resolved := Array.replicate 131 none
  statics := none }

def pool3 : Array CpInfo := pool [(1, u "java/lang/Cloneable"), (0, .class_ 1), (0, u "java/lang/Object"), (0, .class_ 3)] 3

/-- java/lang/Cloneable -/
def k3 : Class := { plain "java/lang/Cloneable" (some 0) with
  accessFlags := 1537
  interfaces := #[]
  cf := some (fileOf pool3 2 #[] #[] 1537 4 #[] #[])
  fields := #[]
  methods := #[]
  instanceTypes := #[]
  staticTypes := #[]
  resolved := Array.replicate 8 none
  statics := none }

def pool4 : Array CpInfo := pool [(1, u "java/io/Serializable"), (0, .class_ 1), (0, u "java/lang/Object"), (0, .class_ 3)] 3

/-- java/io/Serializable -/
def k4 : Class := { plain "java/io/Serializable" (some 0) with
  accessFlags := 1537
  interfaces := #[]
  cf := some (fileOf pool4 2 #[] #[] 1537 4 #[] #[])
  fields := #[]
  methods := #[]
  instanceTypes := #[]
  staticTypes := #[]
  resolved := Array.replicate 8 none
  statics := none }

/-- the primitive byte -/
def k5 : Class := { plain "byte" none with kind := .primitive 'B', accessFlags := 0x411 }
/-- [B -/
def k6 : Class := { plain "[B" (some 0) with kind := .array 5 .byte, interfaces := #[3, 4], accessFlags := 1041 }

/-- the primitive int -/
def k7 : Class := { plain "int" none with kind := .primitive 'I', accessFlags := 0x411 }
/-- [I -/
def k8 : Class := { plain "[I" (some 0) with kind := .array 7 .int, interfaces := #[3, 4], accessFlags := 1041 }

def heap : Heap := #[]
def classes : Array Class := #[k0, k1, k2, k3, k4, k5, k6, k7, k8]
def interned : List (Array UInt16 × Addr) := []
def slotsUsed : Nat := 0
def theMethod : MethodId := ⟨1, 3⟩
def args0 : Array Value := #[.int 27, .int 90, .int 5, .int 3]
def aboutOver (below : List Frame) : State where
  vm := { classes := classes, interned := interned.toArray }
  heap := heap
  slotsUsed := slotsUsed
  threads := #[{ frames := .invoking theMethod args0 :: below }]
def below0 : List Frame := [.native { method := ⟨0, 0⟩, args := #[] }]
def about1 : State := aboutOver below0
def p0 : Program := .bare "" "" ""
def e0 : Env := launch0.env 0 0 0
theorem w_frames : about1.frames = Frame.invoking theMethod args0 :: below0 := rfl
set_option maxRecDepth 65536 in
theorem w_args : argsFit about1.vm theMethod args0 = true := by decide +kernel
set_option maxRecDepth 65536 in
theorem w_heap : heapFits about1 = true := by decide +kernel
set_option maxRecDepth 65536 in
theorem w_runnable : about1.curStatus? = some .runnable := by decide +kernel
set_option maxRecDepth 65536 in
theorem w_alone : about1.alone = true := by decide +kernel
set_option maxRecDepth 65536 in
theorem w_named : about1.methodNamed? x = some theMethod := by decide +kernel
set_option maxRecDepth 65536 in
theorem w_hears : about1.hears theMethod below0 = true := by decide +kernel
set_option maxRecDepth 65536 in
theorem w_ripe : about1.ripe theMethod args0 below0 = true := by decide +kernel
theorem w_running : about1.status = .running := rfl
set_option maxRecDepth 65536 in
theorem w_room : about1.hasRoom e0.platform room_1 = true :=
  launch0.hasRoom_least _ room_1 (by decide +kernel) (by decide +kernel) (by decide +kernel) (by decide +kernel) (by decide +kernel) (by decide +kernel)
theorem allAtoms_all (ts : List Jvm.Cond) (a : Array Jvm.Value) (st : Jvm.State) : (allAtoms ts).before a st = ts.all (fun c => c.before a st) := by
  induction ts with
  | nil => rfl
  | cons c t ih =>
    show (Jvm.Cond.and c (allAtoms t)).before a st = _
    rw [Jvm.Cond.before_and, ih, List.all_cons]
def words1 : List Jvm.Cond := Jvm.Cond.code x code maxLocals ret :: tables_1
/-- a 'code' word, met by the world's own term for the bytes: nothing is compared byte by byte -/
theorem code_word {y : MethodName} {bytes : ByteArray} {mx : Nat} {rt : Option FieldType} {a : Array Value} {s : State} {m : MethodId} {meth : Method} {c : Code} (h1 : s.methodNamed? y = some m) (h2 : s.vm.method? m = some meth) (h3 : meth.code = some c) (h4 : c.code = bytes)
    (h5 : (c.maxLocals == mx && c.exceptionTable.isEmpty && decide (c.maxStack ≤ mostOperands) && decide (meth.sig.returnType = rt) && !meth.locks && decide (parseMethodDescriptor y.desc = some meth.sig)) = true) : (Jvm.Cond.code y bytes mx rt).before a s = true := by
  simp only [Bool.and_eq_true, beq_iff_eq, Bool.not_eq_true', decide_eq_true_eq] at h5
  obtain ⟨⟨⟨⟨⟨g1, g2⟩, g3⟩, g4⟩, g5⟩, g6⟩ := h5
  simp [Cond.before, Cond.holds, Cond.value, h1, h2, h3, h4, g1, g2, g3, g4, g5, g6]
def isCode : Jvm.Cond → Bool
  | .code _ _ _ _ => true
  | _ => false
theorem all_split {L : List Jvm.Cond} {P : Jvm.Cond → Bool} (h1 : L.all (fun c => isCode c || P c) = true) (h2 : ∀ c ∈ L.filter isCode, P c = true) : L.all P = true := by
  refine List.all_eq_true.mpr fun c hc => ?_
  have h := List.all_eq_true.mp h1 c hc
  rcases Bool.eq_false_or_eq_true (isCode c) with hi | hi
  · exact h2 c (List.mem_filter.mpr ⟨hc, hi⟩)
  · simpa [hi] using h
set_option maxRecDepth 65536 in
theorem w_c0 : (Jvm.Cond.code x code maxLocals ret).before args0 about1 = true := code_word (m := ⟨1, 3⟩) (meth := k1m3) (c := k1c3) (by decide +kernel) rfl rfl rfl (by decide +kernel)
set_option maxRecDepth 65536 in
theorem w_c1 : (Jvm.Cond.code ({ cls := "com/example/tideplan/tideplan/planner/ForwardGroups", name := "<init>", desc := "(I)V" } : Jvm.MethodName) prog_35_method_1_code (3 : Nat) (Option.none : Option Jvm.ClassFile.FieldType)).before args0 about1 = true := code_word (m := ⟨2, 0⟩) (meth := k2m0) (c := k2c0) (by decide +kernel) rfl rfl rfl (by decide +kernel)
set_option maxRecDepth 65536 in
theorem w_c2 : (Jvm.Cond.code ({ cls := "java/lang/Object", name := "<init>", desc := "()V" } : Jvm.MethodName) object_method_1_code (1 : Nat) (Option.none : Option Jvm.ClassFile.FieldType)).before args0 about1 = true := code_word (m := ⟨0, 0⟩) (meth := k0m0) (c := k0c0) (by decide +kernel) rfl rfl rfl (by decide +kernel)
set_option maxRecDepth 65536 in
theorem w_c3 : (Jvm.Cond.code ({ cls := "com/example/tideplan/tideplan/planner/ForwardGroupsJoinPinLaw", name := "grp", desc := "(ZI)I" } : Jvm.MethodName) method_2_code (2 : Nat) (Option.some Jvm.ClassFile.FieldType.int)).before args0 about1 = true := code_word (m := ⟨1, 1⟩) (meth := k1m1) (c := k1c1) (by decide +kernel) rfl rfl rfl (by decide +kernel)
set_option maxRecDepth 65536 in
theorem w_c4 : (Jvm.Cond.code ({ cls := "com/example/tideplan/tideplan/planner/ForwardGroups", name := "join", desc := "(II)Z" } : Jvm.MethodName) prog_35_method_5_code (10 : Nat) (Option.some Jvm.ClassFile.FieldType.boolean)).before args0 about1 = true := code_word (m := ⟨2, 3⟩) (meth := k2m3) (c := k2c3) (by decide +kernel) rfl rfl rfl (by decide +kernel)
set_option maxRecDepth 65536 in
theorem w_c5 : (Jvm.Cond.code ({ cls := "com/example/tideplan/tideplan/planner/ForwardGroups", name := "find", desc := "(I)I" } : Jvm.MethodName) prog_35_method_6_code (3 : Nat) (Option.some Jvm.ClassFile.FieldType.int)).before args0 about1 = true := code_word (m := ⟨2, 4⟩) (meth := k2m4) (c := k2c4) (by decide +kernel) rfl rfl rfl (by decide +kernel)
set_option maxRecDepth 65536 in
theorem w_c6 : (Jvm.Cond.code ({ cls := "com/example/tideplan/tideplan/planner/ForwardGroups", name := "parallelism", desc := "(I)I" } : Jvm.MethodName) prog_35_method_3_code (2 : Nat) (Option.some Jvm.ClassFile.FieldType.int)).before args0 about1 = true := code_word (m := ⟨2, 1⟩) (meth := k2m1) (c := k2c1) (by decide +kernel) rfl rfl rfl (by decide +kernel)
set_option maxRecDepth 65536 in
theorem w_c7 : (Jvm.Cond.code ({ cls := "com/example/tideplan/tideplan/planner/ForwardGroups", name := "setParallelism", desc := "(II)V" } : Jvm.MethodName) prog_35_method_4_code (5 : Nat) (Option.none : Option Jvm.ClassFile.FieldType)).before args0 about1 = true := code_word (m := ⟨2, 2⟩) (meth := k2m2) (c := k2c2) (by decide +kernel) rfl rfl rfl (by decide +kernel)
set_option maxRecDepth 65536 in
theorem w_c8 : (Jvm.Cond.code ({ cls := "com/example/tideplan/tideplan/planner/ForwardGroupsJoinPinLaw", name := "at", desc := "(Lcom/example/tideplan/tideplan/planner/ForwardGroups;IZIIZII)Z" } : Jvm.MethodName) method_3_code (11 : Nat) (Option.some Jvm.ClassFile.FieldType.boolean)).before args0 about1 = true := code_word (m := ⟨1, 2⟩) (meth := k1m2) (c := k1c2) (by decide +kernel) rfl rfl rfl (by decide +kernel)
def codes1 : List Jvm.Cond := [Jvm.Cond.code x code maxLocals ret, Jvm.Cond.code ({ cls := "com/example/tideplan/tideplan/planner/ForwardGroups", name := "<init>", desc := "(I)V" } : Jvm.MethodName) prog_35_method_1_code (3 : Nat) (Option.none : Option Jvm.ClassFile.FieldType), Jvm.Cond.code ({ cls := "java/lang/Object", name := "<init>", desc := "()V" } : Jvm.MethodName) object_method_1_code (1 : Nat) (Option.none : Option Jvm.ClassFile.FieldType), Jvm.Cond.code ({ cls := "com/example/tideplan/tideplan/planner/ForwardGroupsJoinPinLaw", name := "grp", desc := "(ZI)I" } : Jvm.MethodName) method_2_code (2 : Nat) (Option.some Jvm.ClassFile.FieldType.int), Jvm.Cond.code ({ cls := "com/example/tideplan/tideplan/planner/ForwardGroups", name := "join", desc := "(II)Z" } : Jvm.MethodName) prog_35_method_5_code (10 : Nat) (Option.some Jvm.ClassFile.FieldType.boolean), Jvm.Cond.code ({ cls := "com/example/tideplan/tideplan/planner/ForwardGroups", name := "find", desc := "(I)I" } : Jvm.MethodName) prog_35_method_6_code (3 : Nat) (Option.some Jvm.ClassFile.FieldType.int), Jvm.Cond.code ({ cls := "com/example/tideplan/tideplan/planner/ForwardGroups", name := "parallelism", desc := "(I)I" } : Jvm.MethodName) prog_35_method_3_code (2 : Nat) (Option.some Jvm.ClassFile.FieldType.int), Jvm.Cond.code ({ cls := "com/example/tideplan/tideplan/planner/ForwardGroups", name := "setParallelism", desc := "(II)V" } : Jvm.MethodName) prog_35_method_4_code (5 : Nat) (Option.none : Option Jvm.ClassFile.FieldType), Jvm.Cond.code ({ cls := "com/example/tideplan/tideplan/planner/ForwardGroupsJoinPinLaw", name := "at", desc := "(Lcom/example/tideplan/tideplan/planner/ForwardGroups;IZIIZII)Z" } : Jvm.MethodName) method_3_code (11 : Nat) (Option.some Jvm.ClassFile.FieldType.boolean)]
set_option maxRecDepth 65536 in
theorem codes_eq : words1.filter isCode = codes1 := rfl
theorem w_codes : ∀ c ∈ words1.filter isCode, c.before args0 about1 = true := by
  rw [codes_eq]
  intro c hc
  simp only [codes1, List.mem_cons, List.not_mem_nil, or_false] at hc
  rcases hc with rfl | rfl | rfl | rfl | rfl | rfl | rfl | rfl | rfl
  · exact w_c0
  · exact w_c1
  · exact w_c2
  · exact w_c3
  · exact w_c4
  · exact w_c5
  · exact w_c6
  · exact w_c7
  · exact w_c8
set_option maxRecDepth 65536 in
theorem w_t1 : (words1.take 24).all (fun c => isCode c || c.before args0 about1) = true := by decide +kernel
set_option maxRecDepth 65536 in
theorem w_t2 : (words1.drop 24).all (fun c => isCode c || c.before args0 about1) = true := by decide +kernel
theorem w_tables : (allAtoms (Jvm.Cond.code x code maxLocals ret :: tables_1)).before args0 about1 = true := by
  rw [allAtoms_all]
  show words1.all (fun c => c.before args0 about1) = true
  refine all_split ?_ w_codes
  rw [← List.take_append_drop 24 words1, List.all_append, w_t1, w_t2]
  rfl
set_option maxRecDepth 65536 in
theorem w_case : (Jvm.Cond.and given_1 narrow_1).before args0 about1 = true := by decide +kernel
theorem w_applies : (headSpec (Jvm.Cond.code x code maxLocals ret :: tables_1) room_1).applies x e0.platform about1 = true :=
  (Spec.applies_iff w_frames).mpr ⟨w_running, w_runnable, w_alone, w_named, w_hears, w_ripe, w_room, w_tables⟩
theorem atStart : AtStart classFile x code maxLocals ret World_1 tables_1 room_1 Calls_1 rest_1 Pre_1 launch0 p0 e0 about1 theMethod args0 below0 :=
  ⟨lists_1, trivial, launch0.admits_env _ _ _, launch0.least_env, fairChoices_fair.cas, fairChoices_fair.clock, w_frames, w_args, w_heap, w_applies, trivial, trivial, w_case⟩
end start1
theorem witness_1 : WitnessClaimed_1 := ⟨start1.p0, start1.e0, start1.about1, start1.theMethod, start1.args0, start1.below0, start1.atStart⟩
end Jvm.Pilot.@@N@@
