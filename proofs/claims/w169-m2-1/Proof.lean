import JvmDerived
import JvmDerived.Pilot.@@N@@Statement
import JvmDerived.Pilot.@@N@@Code
set_option linter.unusedVariables false
set_option linter.unusedSimpArgs false
@@BLOCK:NumsL.lean.txt@@
namespace Jvm.Own
open Sem ClassFile Op Lib Jvm.Stand Jvm.Free Jvm.LawKit Jvm.RoadKit
section Arrays
variable {p : Program} {l : Launch} {e : Env} {R : Room} {s : State} {m : MethodId} {args : Array Value} {below : List Frame} {meth : Method} {c : Code} {T : State} {locs : List Loc} {cells slots : Nat} {Z : State} {h h' h0 : Heap} {a b : Addr} {ty : FieldType} {vs : List Value} {xs : List Int32} {v : Value} {sl : Nat} {ws : List Addr}
/-- the array at a: of the kind ty, its components vs -/
def AV (Z : State) (h : Heap) (a : Addr) (ty : FieldType) (vs : List Value) : Prop := ∃ c : Cell, Arr Z h a c ty ∧ c.slots = vs.toArray ∧ vs.length < 2147483648
/-- an int array -/
def IA (Z : State) (h : Heap) (a : Addr) (xs : List Int32) : Prop := AV Z h a .int (xs.map Value.int)
theorem AV.lt (F : AV Z h a ty vs) : a < h.size := by obtain ⟨c, A, -⟩ := F; exact A.lt
theorem AV.ext (F : AV Z h a ty vs) (E : Ext h h') : AV Z h' a ty vs := by obtain ⟨c, A, r⟩ := F; exact ⟨c, A.ext E, r⟩
theorem AV.other (F : AV Z h b ty vs) (W : Wr h h' a sl v) (q : b ≠ a) : AV Z h' b ty vs := by obtain ⟨c, A, r⟩ := F; exact ⟨c, A.other W q, r⟩
theorem AV.keep (F : AV Z h a ty vs) (K : Keep h h' ws) (q : a ∉ ws) : AV Z h' a ty vs := by obtain ⟨c, A, r⟩ := F; exact ⟨c, ⟨K.2.1 a c A.1 q, A.2⟩, r⟩
theorem AV.wr (F : AV Z h a ty vs) (W : Wr h h' a sl v) : AV Z h' a ty (vs.set sl v) := by
  obtain ⟨c, A, q, n⟩ := F
  exact ⟨_, A.same W, by simp [Cell.setSlot, q], by simpa using n⟩
theorem clamp_lt (z : Int32) : z.toNatClampNeg < 2147483648 := by
  have := z.toInt_lt
  simp only [Int32.toNatClampNeg]; omega
theorem AV.new {k : ClassId} {z : Int32} (A : Arr Z h a (newA k ty z) ty) (q : List.replicate z.toNatClampNeg (defaultValue ty) = vs) : AV Z h a ty vs := by
  subst q
  exact ⟨_, A, by simp [newA], by rw [List.length_replicate]; exact clamp_lt z⟩
theorem IA.lt (F : IA Z h a xs) : a < h.size := AV.lt F
theorem IA.ext (F : IA Z h a xs) (E : Ext h h') : IA Z h' a xs := AV.ext F E
theorem IA.other (F : IA Z h b xs) (W : Wr h h' a sl v) (q : b ≠ a) : IA Z h' b xs := AV.other F W q
theorem IA.keep (F : IA Z h a xs) (K : Keep h h' ws) (q : a ∉ ws) : IA Z h' a xs := AV.keep F K q
theorem IA.new {k : ClassId} {z : Int32} (A : Arr Z h a (newA k .int z) .int) {n : Nat} (q : z.toNatClampNeg = n) : IA Z h a (List.replicate n (0 : Int32)) := AV.new A (by subst q; rw [List.map_replicate]; rfl)
theorem IA.wr {x : Int32} (F : IA Z h a xs) (W : Wr h h' a sl (.int x)) : IA Z h' a (xs.set sl x) := by
  have := AV.wr F W
  rw [← List.map_set] at this; exact this
/-- the place j of an int array; the array with x there -/
def gi (xs : List Int32) (j : Int32) : Int32 := xs.getD j.toNatClampNeg 0
def si (xs : List Int32) (j x : Int32) : List Int32 := xs.set j.toNatClampNeg x
theorem si_len (xs : List Int32) (j x : Int32) : (si xs j x).length = xs.length := by simp [si]
theorem clamp_of {j : Int32} {n : Nat} (hj : 0 ≤ j.toInt ∧ j.toInt < (n : Int)) : j.toNatClampNeg < n ∧ ¬ j < 0 := by
  obtain ⟨h1, h2⟩ := hj
  refine ⟨by simp only [Int32.toNatClampNeg]; omega, ?_⟩
  rw [Int32.lt_iff_toInt_lt]; show ¬ _ < (0 : Int); omega
theorem inb_of' {cl : Cell} {j : Int32} {n : Nat} (hn : cl.slots.size = n) (hj : 0 ≤ j.toInt ∧ j.toInt < (n : Int)) : ¬ (j < 0 ∨ cl.slots.size ≤ j.toNatClampNeg) := by
  obtain ⟨h1, h2⟩ := clamp_of hj
  rintro (q | q)
  · exact h2 q
  · omega
theorem ldI (X : Stand p l e R s m args below meth c T locs cells slots) (hx : p.tables.exec = Jvm.exec) (hZ : Z.Warmed39 s.vm) (eT : T.heap = h) (F : IA Z h a xs) {j : Int32} (n : Nat) (hl : xs.length = n) (hj : 0 ≤ j.toInt ∧ j.toInt < (n : Int)) {g : JFrame} (hg : g.method = m) {rest : List Value} (hs : g.stack = .int j :: .ref a :: rest) (hd : decode c.code g.pc = .ok (.iaload, 1)) :
    ∀ target, Steps p.tables e below (T.setTop { g with pc := g.pc + 1, stack := .int (gi xs j) :: rest }) target → Steps p.tables e below (T.setTop g) target := by
  obtain ⟨cl, A, q, r⟩ := F
  have hsz : cl.slots.size = n := by rw [q]; simp [hl]
  have hi := (clamp_of hj).1
  refine X.iaload hx (v := .int (gi xs j)) (by rw [eT]; exact A.1) (State.isArrayOf_alike hZ.alike A.2.1) A.2.2 (inb_of' hsz hj) ?_ hg hs hd
  rw [q]
  have : j.toNatClampNeg < xs.length := by omega
  simp [gi, List.getD_eq_getElem?_getD, this]
theorem lnV (X : Stand p l e R s m args below meth c T locs cells slots) (hx : p.tables.exec = Jvm.exec) (hZ : Z.Warmed39 s.vm) (eT : T.heap = h) (F : AV Z h a ty vs) {z : Int32} (hz : vs.length.toInt32 = z) {g : JFrame} (hg : g.method = m) {rest : List Value} (hs : g.stack = .ref a :: rest) (hd : decode c.code g.pc = .ok (.arraylength, 1)) :
    ∀ target, Steps p.tables e below (T.setTop { g with pc := g.pc + 1, stack := .int z :: rest }) target → Steps p.tables e below (T.setTop g) target := by
  obtain ⟨cl, A, q, r⟩ := F
  intro target k
  refine X.arraylength hx (by rw [eT]; exact A.1) (State.isArrayOf_alike hZ.alike A.2.1) hg hs hd _ ?_
  have : cl.slots.size.toInt32 = z := by rw [q]; simpa using hz
  rw [this]; exact k
theorem lnI (X : Stand p l e R s m args below meth c T locs cells slots) (hx : p.tables.exec = Jvm.exec) (hZ : Z.Warmed39 s.vm) (eT : T.heap = h) (F : IA Z h a xs) {z : Int32} (hz : xs.length.toInt32 = z) {g : JFrame} (hg : g.method = m) {rest : List Value} (hs : g.stack = .ref a :: rest) (hd : decode c.code g.pc = .ok (.arraylength, 1)) :
    ∀ target, Steps p.tables e below (T.setTop { g with pc := g.pc + 1, stack := .int z :: rest }) target → Steps p.tables e below (T.setTop g) target :=
  lnV X hx hZ eT F (by rw [List.length_map]; exact hz) hg hs hd
theorem stIA (X : Stand p l e R s m args below meth c T locs cells slots) (hx : p.tables.exec = Jvm.exec) (hZ : Z.Warmed39 s.vm) (eT : T.heap = h) (F : IA Z h a xs) {j x : Int32} (n : Nat) (hl : xs.length = n) (hj : 0 ≤ j.toInt ∧ j.toInt < (n : Int)) {g : JFrame} (hg : g.method = m) {rest : List Value} (hs : g.stack = .int x :: .int j :: .ref a :: rest) (hd : decode c.code g.pc = .ok (.iastore, 1)) :
    ∃ T' h', Stand p l e R s m args below meth c T' (locs ++ [⟨a, j.toNatClampNeg⟩]) cells slots ∧ T'.heap = h' ∧ Wr h h' a j.toNatClampNeg (.int x) ∧ IA Z h' a (si xs j x) ∧ ∀ target, Steps p.tables e below (T'.setTop { g with pc := g.pc + 1, stack := rest }) target → Steps p.tables e below (T.setTop g) target := by
  have F0 := F
  obtain ⟨cl, A, q, r⟩ := F
  have hsz : cl.slots.size = n := by rw [q]; simp [hl]
  obtain ⟨T', h', X', e', W, st⟩ := stI X hx hZ eT A (inb_of' hsz hj) hg hs hd
  exact ⟨T', h', X', e', W, IA.wr F0 W, st⟩
/-- a place read or written, where it lies in the array; a fresh array of at most cap places -/
def rd (xs : List Int32) (j : Int32) : Option Int32 := if 0 ≤ j.toInt ∧ j.toInt < (xs.length : Int) then some (gi xs j) else none
def wt (xs : List Int32) (j x : Int32) : Option (List Int32) := if 0 ≤ j.toInt ∧ j.toInt < (xs.length : Int) then some (si xs j x) else none
def mk (cap : Nat) (n : Int32) : Option (List Int32) := if 0 ≤ n.toInt ∧ n.toInt ≤ (cap : Int) then some (List.replicate n.toNatClampNeg 0) else none
def ln (xs : List Int32) : Int32 := xs.length.toInt32
theorem rd_some {xs : List Int32} {j v : Int32} (q : rd xs j = some v) : (0 ≤ j.toInt ∧ j.toInt < (xs.length : Int)) ∧ gi xs j = v := by
  unfold rd at q
  split at q
  · next h => exact ⟨h, Option.some.inj q⟩
  · cases q
theorem wt_some {xs ys : List Int32} {j x : Int32} (q : wt xs j x = some ys) : (0 ≤ j.toInt ∧ j.toInt < (xs.length : Int)) ∧ si xs j x = ys := by
  unfold wt at q
  split at q
  · next h => exact ⟨h, Option.some.inj q⟩
  · cases q
theorem mk_some {cap : Nat} {n : Int32} {ys : List Int32} (q : mk cap n = some ys) : ¬ n < 0 ∧ n.toNatClampNeg ≤ cap ∧ ys = List.replicate n.toNatClampNeg 0 := by
  unfold mk at q
  split at q
  · next h =>
    refine ⟨?_, ?_, (Option.some.inj q).symm⟩
    · rw [Int32.lt_iff_toInt_lt]; show ¬ _ < (0 : Int); omega
    · simp only [Int32.toNatClampNeg]; omega
  · cases q
theorem ldO (X : Stand p l e R s m args below meth c T locs cells slots) (hx : p.tables.exec = Jvm.exec) (hZ : Z.Warmed39 s.vm) (eT : T.heap = h) (F : IA Z h a xs) {j x : Int32} (q : rd xs j = some x) {g : JFrame} (hg : g.method = m) {rest : List Value} (hs : g.stack = .int j :: .ref a :: rest) (hd : decode c.code g.pc = .ok (.iaload, 1)) :
    ∀ target, Steps p.tables e below (T.setTop { g with pc := g.pc + 1, stack := .int x :: rest }) target → Steps p.tables e below (T.setTop g) target := by
  obtain ⟨hb, rfl⟩ := rd_some q
  exact ldI X hx hZ eT F xs.length rfl hb hg hs hd
theorem stO (X : Stand p l e R s m args below meth c T locs cells slots) (hx : p.tables.exec = Jvm.exec) (hZ : Z.Warmed39 s.vm) (eT : T.heap = h) (F : IA Z h a xs) {j x : Int32} {ys : List Int32} (q : wt xs j x = some ys) {g : JFrame} (hg : g.method = m) {rest : List Value} (hs : g.stack = .int x :: .int j :: .ref a :: rest) (hd : decode c.code g.pc = .ok (.iastore, 1)) :
    ∃ T' h', Stand p l e R s m args below meth c T' (locs ++ [⟨a, j.toNatClampNeg⟩]) cells slots ∧ T'.heap = h' ∧ Wr h h' a j.toNatClampNeg (.int x) ∧ IA Z h' a ys ∧ ∀ target, Steps p.tables e below (T'.setTop { g with pc := g.pc + 1, stack := rest }) target → Steps p.tables e below (T.setTop g) target := by
  obtain ⟨hb, rfl⟩ := wt_some q
  exact stIA X hx hZ eT F xs.length rfl hb hg hs hd
theorem IA.fit {c : Cell} (A : Arr Z h a c .int) (q : c.slots = (xs.map Value.int).toArray) : FitC Z c := fitC_of A fun i hi v hv => by
  rw [q] at hv
  simp at hv
  obtain ⟨x, -, rfl⟩ := hv
  rfl
theorem clI (X : Stand p l e R s m args below meth c T locs cells slots) (hx : p.tables.exec = Jvm.exec) (hZ : Z.Warmed39 s.vm) {a0 : Array Value} {own : String} {index : Nat} (hown : s.vm.findClass own = some m.cls)
    (w1 : (Cond.methodLink own index ⟨"[I", "clone", "()Ljava/lang/Object;"⟩).before a0 Z = true) (w2 : (Cond.sameMethod "[I" "java/lang/Object" "clone" "()Ljava/lang/Object;").before a0 Z = true) (w3 : (Cond.native ⟨"java/lang/Object", "clone", "()Ljava/lang/Object;"⟩).before a0 Z = true)
    (w4 : (Cond.instanceMethod ⟨"java/lang/Object", "clone", "()Ljava/lang/Object;"⟩).before a0 Z = true) (w5 : (Cond.selects "[I" ⟨"[I", "clone", "()Ljava/lang/Object;"⟩ ⟨"java/lang/Object", "clone", "()Ljava/lang/Object;"⟩).before a0 Z = true) (w6 : (Cond.castable "[I" "java/lang/Cloneable").before a0 Z = true)
    (eT : T.heap = h) (F : IA Z h a xs) (E : Exa Z h a "[I") {g : JFrame} (hg : g.method = m) (hsize : g.locals.size = c.maxLocals) {rest : List Value} (hs : g.stack = .ref a :: rest) (hd : decode c.code g.pc = .ok (.invokevirtual index, 3))
    (hf : 1 ≤ R.frames) {W cap : Nat} (hW : 2 * g.monitorRoom + (rest.map fun v => v.category).sum ≤ W) (hl : W + 14 ≤ R.locals) (hcap : xs.length ≤ cap) (hc : cells + 1 ≤ R.cells) (hsl : slots + cap ≤ R.slots) :
    ∃ T' h', Stand p l e R s m args below meth c T' locs (cells + 1) (slots + cap) ∧ T'.heap = h' ∧ Ext h h' ∧ IA Z h' h.size xs ∧ Exa Z h' h.size "[I" ∧
      ∀ target, Steps p.tables e below (T'.setTop { g with pc := g.pc + 3, stack := .ref h.size :: rest }) target → Steps p.tables e below (T.setTop g) target := by
  obtain ⟨cl, A, q, r⟩ := F
  have hsz : cl.slots.size = xs.length := by rw [q]; simp
  obtain ⟨T', h', X', e', E', A', EE, st⟩ := cloneA X hx hZ hown w1 w2 w3 w4 w5 w6 eT A E (IA.fit A q) hg hsize hs hd hf hW hl (by rw [hsz]; exact hcap) hc hsl
  exact ⟨T', h', X', e', E', ⟨_, A', q, r⟩, EE, st⟩
/-- a byte array -/
def BA (Z : State) (h : Heap) (a : Addr) (xs : List Int32) : Prop := AV Z h a .byte (xs.map Value.int)
theorem BA.lt (F : BA Z h a xs) : a < h.size := AV.lt F
theorem BA.ext (F : BA Z h a xs) (E : Ext h h') : BA Z h' a xs := AV.ext F E
theorem BA.other (F : BA Z h b xs) (W : Wr h h' a sl v) (q : b ≠ a) : BA Z h' b xs := AV.other F W q
theorem BA.keep (F : BA Z h a xs) (K : Keep h h' ws) (q : a ∉ ws) : BA Z h' a xs := AV.keep F K q
theorem BA.new {k : ClassId} {z : Int32} (A : Arr Z h a (newA k .byte z) .byte) {n : Nat} (q : z.toNatClampNeg = n) : BA Z h a (List.replicate n (0 : Int32)) := AV.new A (by subst q; rw [List.map_replicate]; rfl)
theorem BA.wr {x : Int32} (F : BA Z h a xs) (W : Wr h h' a sl (.int x)) : BA Z h' a (xs.set sl x) := by
  have := AV.wr F W
  rw [← List.map_set] at this; exact this
theorem ldBO (X : Stand p l e R s m args below meth c T locs cells slots) (hx : p.tables.exec = Jvm.exec) (hZ : Z.Warmed39 s.vm) (eT : T.heap = h) (F : BA Z h a xs) {j x : Int32} (q : rd xs j = some x) {g : JFrame} (hg : g.method = m) {rest : List Value} (hs : g.stack = .int j :: .ref a :: rest) (hd : decode c.code g.pc = .ok (.baload, 1)) :
    ∀ target, Steps p.tables e below (T.setTop { g with pc := g.pc + 1, stack := .int x :: rest }) target → Steps p.tables e below (T.setTop g) target := by
  obtain ⟨hj, rfl⟩ := rd_some q
  obtain ⟨cl, A, q, r⟩ := F
  have hsz : cl.slots.size = xs.length := by rw [q]; simp
  have hi := (clamp_of hj).1
  refine X.baloadBytes hx (v := .int (gi xs j)) (by rw [eT]; exact A.1) (State.isArrayOf_alike hZ.alike A.2.1) A.2.2 (inb_of' hsz hj) ?_ hg hs hd
  rw [q]
  simp [gi, List.getD_eq_getElem?_getD, hi]
theorem stBO (X : Stand p l e R s m args below meth c T locs cells slots) (hx : p.tables.exec = Jvm.exec) (hZ : Z.Warmed39 s.vm) (eT : T.heap = h) (F : BA Z h a xs) {j x : Int32} {ys : List Int32} (q : wt xs j (nar .byte x) = some ys) {g : JFrame} (hg : g.method = m) {rest : List Value} (hs : g.stack = .int x :: .int j :: .ref a :: rest) (hd : decode c.code g.pc = .ok (.bastore, 1)) :
    ∃ T' h', Stand p l e R s m args below meth c T' (locs ++ [⟨a, j.toNatClampNeg⟩]) cells slots ∧ T'.heap = h' ∧ Wr h h' a j.toNatClampNeg (.int (nar .byte x)) ∧ BA Z h' a ys ∧ ∀ target, Steps p.tables e below (T'.setTop { g with pc := g.pc + 1, stack := rest }) target → Steps p.tables e below (T.setTop g) target := by
  obtain ⟨hj, rfl⟩ := wt_some q
  have F0 := F
  obtain ⟨cl, A, q, r⟩ := F
  have hsz : cl.slots.size = xs.length := by rw [q]; simp
  obtain ⟨T', h', X', e', W, st⟩ := stB X hx hZ eT A (inb_of' hsz hj) hg hs hd
  exact ⟨T', h', X', e', W, BA.wr F0 W, st⟩
/-- an array of references to objects of the class C -/
def RA (Z : State) (h : Heap) (a : Addr) (C : String) (vs : List Value) : Prop := ∃ c : Cell, Arr Z h a c (.object C) ∧ c.slots = vs.toArray ∧ vs.length < 2147483648 ∧ Ovr Z c.cls C
variable {C : String}
theorem RA.lt (F : RA Z h a C vs) : a < h.size := by obtain ⟨c, A, -⟩ := F; exact A.lt
theorem RA.ext (F : RA Z h a C vs) (E : Ext h h') : RA Z h' a C vs := by obtain ⟨c, A, r⟩ := F; exact ⟨c, A.ext E, r⟩
theorem RA.other (F : RA Z h b C vs) (W : Wr h h' a sl v) (q : b ≠ a) : RA Z h' b C vs := by obtain ⟨c, A, r⟩ := F; exact ⟨c, A.other W q, r⟩
theorem RA.new {k : ClassId} {z : Int32} (A : Arr Z h a (newA k (.object C) z) (.object C)) (O : Ovr Z k C) (q : List.replicate z.toNatClampNeg Value.null = vs) : RA Z h a C vs := by
  subst q
  exact ⟨_, A, by simp [newA, defaultValue], by rw [List.length_replicate]; exact clamp_lt z, O⟩
theorem stRA (X : Stand p l e R s m args below meth c T locs cells slots) (hx : p.tables.exec = Jvm.exec) (hZ : Z.Warmed39 s.vm) (eT : T.heap = h) (F : RA Z h a C vs) {j : Int32} {y : Addr} (n : Nat) (hl : vs.length = n) (hj : 0 ≤ j.toInt ∧ j.toInt < (n : Int)) (I : Ins Z h y C true) {g : JFrame} (hg : g.method = m) {rest : List Value} (hs : g.stack = .ref y :: .int j :: .ref a :: rest) (hd : decode c.code g.pc = .ok (.aastore, 1)) :
    ∃ T' h', Stand p l e R s m args below meth c T' (locs ++ [⟨a, j.toNatClampNeg⟩]) cells slots ∧ T'.heap = h' ∧ Wr h h' a j.toNatClampNeg (.ref y) ∧ RA Z h' a C (vs.set j.toNatClampNeg (.ref y)) ∧ ∀ target, Steps p.tables e below (T'.setTop { g with pc := g.pc + 1, stack := rest }) target → Steps p.tables e below (T.setTop g) target := by
  obtain ⟨cl, A, q, r, O⟩ := F
  have hsz : cl.slots.size = n := by rw [q]; simp [hl]
  obtain ⟨T', h', X', e', W, st⟩ := stR X hx hZ eT A (inb_of' hsz hj) rfl (Sto.of A O I) hg hs hd
  exact ⟨T', h', X', e', W, ⟨_, A.same W, by simp [Cell.setSlot, q], by simpa using r, O⟩, st⟩
theorem ldRA (X : Stand p l e R s m args below meth c T locs cells slots) (hx : p.tables.exec = Jvm.exec) (hZ : Z.Warmed39 s.vm) (eT : T.heap = h) (F : RA Z h a C vs) {j : Int32} (n : Nat) (hl : vs.length = n) (hj : 0 ≤ j.toInt ∧ j.toInt < (n : Int)) (hv : vs[j.toNatClampNeg]? = some v) {g : JFrame} (hg : g.method = m) {rest : List Value} (hs : g.stack = .int j :: .ref a :: rest) (hd : decode c.code g.pc = .ok (.aaload, 1)) :
    ∀ target, Steps p.tables e below (T.setTop { g with pc := g.pc + 1, stack := v :: rest }) target → Steps p.tables e below (T.setTop g) target := by
  obtain ⟨cl, A, q, r, O⟩ := F
  have hsz : cl.slots.size = n := by rw [q]; simp [hl]
  exact X.aaload hx (by rw [eT]; exact A.1) (State.isArrayOf_alike hZ.alike A.2.1) rfl A.2.2 (inb_of' hsz hj) (by rw [q]; simpa using hv) hg hs hd
theorem ldAV (X : Stand p l e R s m args below meth c T locs cells slots) (hx : p.tables.exec = Jvm.exec) (hZ : Z.Warmed39 s.vm) (eT : T.heap = h) (F : AV Z h a ty vs) (hty : ty.isReference = true) {j : Int32} (n : Nat) (hl : vs.length = n) (hj : 0 ≤ j.toInt ∧ j.toInt < (n : Int)) (hv : vs[j.toNatClampNeg]? = some v) {g : JFrame} (hg : g.method = m) {rest : List Value} (hs : g.stack = .int j :: .ref a :: rest) (hd : decode c.code g.pc = .ok (.aaload, 1)) :
    ∀ target, Steps p.tables e below (T.setTop { g with pc := g.pc + 1, stack := v :: rest }) target → Steps p.tables e below (T.setTop g) target := by
  obtain ⟨cl, A, q, r⟩ := F
  have hsz : cl.slots.size = n := by rw [q]; simp [hl]
  exact X.aaload hx (by rw [eT]; exact A.1) (State.isArrayOf_alike hZ.alike A.2.1) hty A.2.2 (inb_of' hsz hj) (by rw [q]; simpa using hv) hg hs hd
def ga (as : List Addr) (j : Int32) : Addr := as.getD j.toNatClampNeg 0
theorem ga_at {as : List Addr} {j : Int32} {n : Nat} (hl : as.length = n) (hj : 0 ≤ j.toInt ∧ j.toInt < (n : Int)) : (as.map Value.ref)[j.toNatClampNeg]? = some (.ref (ga as j)) := by
  have : j.toNatClampNeg < as.length := by rw [hl]; exact (clamp_of hj).1
  simp [ga, List.getD_eq_getElem?_getD, this]
theorem ga_all {as : List Addr} {j : Int32} {n : Nat} {P : Addr → Prop} (hl : as.length = n) (hj : 0 ≤ j.toInt ∧ j.toInt < (n : Int)) (q : ∀ x ∈ as, P x) : P (ga as j) := by
  have h : j.toNatClampNeg < as.length := by rw [hl]; exact (clamp_of hj).1
  have : ga as j = as[j.toNatClampNeg] := by simp [ga, List.getD_eq_getElem?_getD, h]
  rw [this]; exact q _ (List.getElem_mem h)
theorem size_wr (W : Wr h h' a sl v) {n : Nat} (q : n ≤ h.size) : n ≤ h'.size := by rw [W.size]; exact q
end Arrays
end Jvm.Own
namespace Jvm.RoadKit
open Sem ClassFile Op Lib Jvm.Stand Jvm.Free Jvm.LawKit
section New
variable {p : Program} {l : Launch} {e : Env} {R : Room} {s : State} {m : MethodId} {args : Array Value} {below : List Frame} {meth : Method} {c : Code} {T : State} {locs : List Loc} {cells slots : Nat}
theorem retI (X : Stand p l e R s m args below meth c T locs cells slots) (hx : p.tables.exec = Jvm.exec) {pc : Nat} {Ls : Array Slot} {z : Int32} {rest : List Value} (hret : meth.sig.returnType = some .int) (hd : decode c.code pc = .ok (.ireturn, 1)) {fs : List Frame}
    (hl : ∀ (f : JFrame) (acts : List Action), f.method = m → f.locked = none → f.entered = [] → (doReturn e (T.setTop f) acts (some (.int z))).1 = T.setFrames fs) : Steps p.tables e below (T.setTop (mkF m pc Ls (.int z :: rest))) (T.setFrames fs) := by
  have hm' : T.vm.method? m = some meth := X.method'
  have hn : narrow .int (.int z) = .int z := rfl
  show Steps p.tables e below (T.setTop { method := m, pc := pc, locals := Ls, stack := _ :: rest, locked := none }) _
  jvm_step X.here [X.here.top, hx, hd, hm', hret, hn]
  first | (intro acts; rw [hl _ acts rfl rfl rfl]) | rw [hl _ _ rfl rfl rfl]
  exact Steps.refl _
theorem retA (X : Stand p l e R s m args below meth c T locs cells slots) (hx : p.tables.exec = Jvm.exec) {pc : Nat} {Ls : Array Slot} {z : Value} {t : FieldType} {rest : List Value} (hret : meth.sig.returnType = some t) (ht : t.isReference = true) (hz : z.isRef = true) (hd : decode c.code pc = .ok (.areturn, 1)) {fs : List Frame}
    (hl : ∀ (f : JFrame) (acts : List Action), f.method = m → f.locked = none → f.entered = [] → (doReturn e (T.setTop f) acts (some z)).1 = T.setFrames fs) : Steps p.tables e below (T.setTop (mkF m pc Ls (z :: rest))) (T.setFrames fs) := by
  have hm' : T.vm.method? m = some meth := X.method'
  show Steps p.tables e below (T.setTop { method := m, pc := pc, locals := Ls, stack := _ :: rest, locked := none }) _
  jvm_step X.here [X.here.top, hx, hd, hm', hret, ht, hz]
  first | (intro acts; rw [hl _ acts rfl rfl rfl]) | rw [hl _ _ rfl rfl rfl]
  exact Steps.refl _
end New
end Jvm.RoadKit
namespace Jvm.Pilot.@@N@@
open Jvm Jvm.ClassFile Sem Op Lib Jvm.Free Jvm.Stand Jvm.LawKit Jvm.RoadKit Bundle Jvm.Pilot.@@N@@.Jvm.D
theorem own_tsw {x : Int32} {k : Int} (h : ¬ x = Int32.ofInt k) (h1 : -2147483648 ≤ k) (h2 : k < 2147483648) : x.toInt ≠ k := fun q => h (by rw [← q]; exact (Int32.ofInt_toInt x).symm)
theorem own_rem {x y : Int32} (hx : 0 ≤ x.toInt) (hy : 0 < y.toInt) : (x - (x / y) * y).toInt = x.toInt % y.toInt := by
  have hxl := x.toInt_lt
  have e1 : (x / y).toInt = x.toInt / y.toInt := by rw [Jvm.Kit.i32_div (by omega), Int.tdiv_eq_ediv_of_nonneg hx]
  have m1 : x.toInt / y.toInt * y.toInt = x.toInt - x.toInt % y.toInt := by
    have := Int.mul_ediv_add_emod x.toInt y.toInt
    rw [Int.mul_comm] at this; omega
  have m2 : 0 ≤ x.toInt % y.toInt := Int.emod_nonneg _ (by omega)
  have m3 : x.toInt % y.toInt ≤ x.toInt := by
    have := Int.mul_nonneg (Int.ediv_nonneg hx (by omega : 0 ≤ y.toInt)) (by omega : 0 ≤ y.toInt); omega
  have e2 : ((x / y) * y).toInt = x.toInt - x.toInt % y.toInt := by rw [Jvm.Kit.i32_mul (by rw [e1, m1]; omega) (by rw [e1, m1]; omega), e1, m1]
  rw [Jvm.Kit.i32_sub (by rw [e2]; omega) (by rw [e2]; omega), e2]; omega
theorem own_pos (x : Int32) : (x &&& 2147483647).toInt = x.toInt % 2147483648 := Jvm.Kit.i32_mask x 2147483647 (k := 31) (by decide) (by decide)

theorem own_eqint {args : Array Value} {first s : State} {o : Option Outcome} {idx : List Nat} {t : Term} {k : Int32} (h : (Jvm.Cond.eq t (.int k)).value args first o s idx = some true) : t.eval args first o idx s = some (.int k) := by
  cases ha : t.eval args first o idx s with
  | none => simp [Cond.value, ha] at h
  | some x => cases x <;> simp [Cond.value, ha, Term.eval] at h ⊢; exact h
theorem own_fldne {Z : State} {h : Heap} {a b : Addr} {C n d : String} {v w : Value} (F : Fld Z h a C n d v) (G : Fld Z h b C n d w) (q : v ≠ w) : a ≠ b := by
  rintro rfl
  obtain ⟨c1, _, _, _, f1, h1, h2, _, _, _, _, h3⟩ := F
  obtain ⟨c2, _, _, _, f2, g1, g2, _, _, _, _, g3⟩ := G
  cases h1.symm.trans g1
  cases h2.symm.trans g2
  exact q (Option.some.inj (h3.symm.trans g3))

theorem own_size {args : Array Value} {first s : State} {o : Option Outcome} {idx : List Nat} {t : Term} {a : Addr} {c : Cell} {k : Int32} (ht : t.eval args first o idx s = some (.ref a)) (ha : s.arrayAt? a = some c) (h : (Term.length t).eval args first o idx s = some (.int k)) : c.slots.size < 2147483648 ∧ c.slots.size.toInt32 = k := by
  have hlt : c.slots.size < 2 ^ 31 := by
    by_cases q : c.slots.size < 2 ^ 31
    · exact q
    · simp [Term.eval, ht, ha, q] at h
  rw [len_f ht ha hlt] at h
  exact ⟨hlt, by simpa using h⟩
theorem own_av {Z : State} {h : Heap} {a : Addr} {c : Cell} {ty : FieldType} (A : Arr Z h a c ty) (q : c.slots.size < 2147483648) : Own.AV Z h a ty c.slots.toList := ⟨c, A, by simp, by simpa using q⟩

theorem d1_0 : decode method_2_code 0 = .ok (.iload_n 0, 1) := by decide +kernel
theorem d1_1 : decode method_2_code 1 = .ok (.iconst 2, 1) := by decide +kernel
theorem d1_2 : decode method_2_code 2 = .ok (.iload_n 3, 1) := by decide +kernel
theorem d1_3 : decode method_2_code 3 = .ok (.imul, 1) := by decide +kernel
theorem d1_4 : decode method_2_code 4 = .ok (.iushr, 1) := by decide +kernel
theorem d1_5 : decode method_2_code 5 = .ok (.iconst 3, 1) := by decide +kernel
theorem d1_6 : decode method_2_code 6 = .ok (.iand, 1) := by decide +kernel
theorem d1_7 : decode method_2_code 7 = .ok (.istore 4, 2) := by decide +kernel
theorem d1_9 : decode method_2_code 9 = .ok (.iload 4, 2) := by decide +kernel
theorem d1_11 : decode method_2_code 11 = .ok (.ifCond .ne 6, 3) := by decide +kernel
theorem d1_14 : decode method_2_code 14 = .ok (.bipush 13, 2) := by decide +kernel
theorem d1_16 : decode method_2_code 16 = .ok (.ireturn, 1) := by decide +kernel
theorem d1_17 : decode method_2_code 17 = .ok (.iload 4, 2) := by decide +kernel
theorem d1_19 : decode method_2_code 19 = .ok (.iconst 1, 1) := by decide +kernel
theorem d1_20 : decode method_2_code 20 = .ok (.if_icmp .ne 6, 3) := by decide +kernel
theorem d1_23 : decode method_2_code 23 = .ok (.bipush 10, 2) := by decide +kernel
theorem d1_25 : decode method_2_code 25 = .ok (.ireturn, 1) := by decide +kernel
theorem d1_26 : decode method_2_code 26 = .ok (.lload_n 1, 1) := by decide +kernel
theorem d1_27 : decode method_2_code 27 = .ok (.bipush 8, 2) := by decide +kernel
theorem d1_29 : decode method_2_code 29 = .ok (.iload_n 3, 1) := by decide +kernel
theorem d1_30 : decode method_2_code 30 = .ok (.imul, 1) := by decide +kernel
theorem d1_31 : decode method_2_code 31 = .ok (.lushr, 1) := by decide +kernel
theorem d1_32 : decode method_2_code 32 = .ok (.l2i, 1) := by decide +kernel
theorem d1_33 : decode method_2_code 33 = .ok (.i2b, 1) := by decide +kernel
theorem d1_34 : decode method_2_code 34 = .ok (.ireturn, 1) := by decide +kernel
theorem pn_rmP : plainName "com/example/lettr/lettr/bench/OpeningHeadEndPinLaw" = true := by first | (simp [plainName, overriddenIn]; done) | decide +kernel
theorem ef_rmP (m : MethodId) (p0 : Int32) (j1 : Int64) (p2 : Int32) : entryFrame m #[(.int p0), (.long j1), (.int p2)] 5 = mkF m 0 #[.val (.int p0), .val (.long j1), .second, .val (.int p2), .unset] [] := by first | (simp [entryFrame, mkF, argsToLocals, Value.category]; done) | rfl
def Fp (p0 : Int32) (j1 : Int64) (p2 : Int32) : Int32 := (if (((p0.toUInt32 >>> (((2 : Int32) * p2) &&& 31).toUInt32).toInt32) &&& (3 : Int32)) = (0 : Int32) then (13 : Int32) else (if (((p0.toUInt32 >>> (((2 : Int32) * p2) &&& 31).toUInt32).toInt32) &&& (3 : Int32)) = (1 : Int32) then (10 : Int32) else (nar .byte ((((j1.toUInt64 >>> (((8 : Int32) * p2) &&& 0x3f).toInt64.toUInt64).toInt64).toInt32).toInt8.toInt32))))
def Q_rmP (Z : State) (p0 : Int32) (j1 : Int64) (p2 : Int32) (h0 : Heap) (n0 : Nat) (v : Option Value) (h : Heap) (L : List Loc) : Prop := v = some (.int (Fp p0 j1 p2)) ∧ Fr n0 L ∧ h = h0
set_option maxRecDepth 65536 in
set_option maxHeartbeats 40000000 in
theorem rmP (l : Launch) (Z : State) (a0 : Array Value) (hw : ∀ d ∈ tables_1, d.before a0 Z = true) (ws : List Jvm.Cond) (p0 : Int32) (j1 : Int64) (p2 : Int32) (h0 : Heap) (n0 : Nat) (Z0 : n0 ≤ h0.size) :
    MetFree l (⟨"com/example/lettr/lettr/bench/OpeningHeadEndPinLaw", "pick", "(IJI)B"⟩ : MethodName) (head1 (Jvm.Cond.code (⟨"com/example/lettr/lettr/bench/OpeningHeadEndPinLaw", "pick", "(IJI)B"⟩ : MethodName) method_2_code 5 (some .byte) :: ws) ({ frames := 0, cells := 0, slots := 0, locals := 0 } : Room)) (fun a U => a = #[(.int p0), (.long j1), (.int p2)] ∧ Z.Warmed39 U.vm ∧ U.heap = h0) (fun _ _ _ _ _ => True) (fun _ U o U' => ∃ v L, o = .returned v ∧ Q_rmP Z p0 j1 p2 h0 n0 v U'.heap L ∧ FrameEnd U o U' L ({ frames := 0, cells := 0, slots := 0, locals := 0 } : Room).cells ({ frames := 0, cells := 0, slots := 0, locals := 0 } : Room).slots) := by
  refine MetFree.of_bodySF (plainFor_of_name pn_rmP) hisR ?_
  intro p e s m args below meth c s₁ Bd hml0 hP hK
  obtain ⟨rfl, hZ, hh⟩ := hP
  have hx := Bd.exec
  have hby := Bd.bytes
  have hml : c.maxLocals = 5 := hml0
  have hown : s.vm.findClass "com/example/lettr/lettr/bench/OpeningHeadEndPinLaw" = some m.cls := findClass_of_methodNamed Bd.named
  have hnm := (name_of_methodNamed Bd.named Bd.method).1
  have X0 : Stand p l e ({ frames := 0, cells := 0, slots := 0, locals := 0 } : Room) s m #[(.int p0), (.long j1), (.int p2)] below meth c s₁ [] 0 0 := Stand.of_body Bd
  have e0 : s₁.heap = h0 := by rw [← hh, Bd.state]; rfl
  have N0 := Fr.nil n0
  have q0 : Steps p.tables e below (s₁.setTop (entryFrame m #[(.int p0), (.long j1), (.int p2)] 5)) (s₁.setTop (mkF m 0 #[.val (.int p0), .val (.long j1), .second, .val (.int p2), .unset] [])) := castTop (ef_rmP m p0 j1 p2) (Steps.refl _)
  obtain ⟨fs, hr, hrun, hended, hW, hsame⟩ := X0.leave (v := some (.int (Fp p0 j1 p2))) (fun h => by rw [Bd.returns] at h; cases h)
  refine ⟨_, _, q0.trans ?_, hrun, hended, _, _, rfl, ?_, ⟨_, rfl⟩, hW, hsame.mono (by decide) (by decide)⟩
  · show Steps p.tables e below (s₁.setTop (mkF m 0 #[.val (.int p0), .val (.long j1), .second, .val (.int p2), .unset] [])) _
    refine XS.iloadN X0.here hx rfl (hb hby d1_0) rfl ?_
    show Steps p.tables e below (s₁.setTop (mkF m 1 #[.val (.int p0), .val (.long j1), .second, .val (.int p2), .unset] [(.int p0)])) _
    refine XS.iconst X0.here hx rfl (hb hby d1_1) ?_
    show Steps p.tables e below (s₁.setTop (mkF m 2 #[.val (.int p0), .val (.long j1), .second, .val (.int p2), .unset] [(.int (2 : Int32)), (.int p0)])) _
    refine XS.iloadN X0.here hx rfl (hb hby d1_2) rfl ?_
    show Steps p.tables e below (s₁.setTop (mkF m 3 #[.val (.int p0), .val (.long j1), .second, .val (.int p2), .unset] [(.int p2), (.int (2 : Int32)), (.int p0)])) _
    refine XS.imul X0.here hx rfl (hb hby d1_3) rfl ?_
    show Steps p.tables e below (s₁.setTop (mkF m 4 #[.val (.int p0), .val (.long j1), .second, .val (.int p2), .unset] [(.int ((2 : Int32) * p2)), (.int p0)])) _
    refine XS.iushr X0.here hx rfl (hb hby d1_4) rfl ?_
    show Steps p.tables e below (s₁.setTop (mkF m 5 #[.val (.int p0), .val (.long j1), .second, .val (.int p2), .unset] [(.int ((p0.toUInt32 >>> (((2 : Int32) * p2) &&& 31).toUInt32).toInt32))])) _
    refine XS.iconst X0.here hx rfl (hb hby d1_5) ?_
    show Steps p.tables e below (s₁.setTop (mkF m 6 #[.val (.int p0), .val (.long j1), .second, .val (.int p2), .unset] [(.int (3 : Int32)), (.int ((p0.toUInt32 >>> (((2 : Int32) * p2) &&& 31).toUInt32).toInt32))])) _
    refine XS.iand X0.here hx rfl (hb hby d1_6) rfl ?_
    show Steps p.tables e below (s₁.setTop (mkF m 7 #[.val (.int p0), .val (.long j1), .second, .val (.int p2), .unset] [(.int (((p0.toUInt32 >>> (((2 : Int32) * p2) &&& 31).toUInt32).toInt32) &&& (3 : Int32)))])) _
    refine XS.istore X0.here hx rfl (hb hby d1_7) rfl (l' := #[.val (.int p0), .val (.long j1), .second, .val (.int p2), .val (.int (((p0.toUInt32 >>> (((2 : Int32) * p2) &&& 31).toUInt32).toInt32) &&& (3 : Int32)))]) rfl ?_
    show Steps p.tables e below (s₁.setTop (mkF m 9 #[.val (.int p0), .val (.long j1), .second, .val (.int p2), .val (.int (((p0.toUInt32 >>> (((2 : Int32) * p2) &&& 31).toUInt32).toInt32) &&& (3 : Int32)))] [])) _
    refine XS.iload X0.here hx rfl (hb hby d1_9) rfl ?_
    show Steps p.tables e below (s₁.setTop (mkF m 11 #[.val (.int p0), .val (.long j1), .second, .val (.int p2), .val (.int (((p0.toUInt32 >>> (((2 : Int32) * p2) &&& 31).toUInt32).toInt32) &&& (3 : Int32)))] [(.int (((p0.toUInt32 >>> (((2 : Int32) * p2) &&& 31).toUInt32).toInt32) &&& (3 : Int32)))])) _
    by_cases hc1 : (((p0.toUInt32 >>> (((2 : Int32) * p2) &&& 31).toUInt32).toInt32) &&& (3 : Int32)) = (0 : Int32)
    · refine XS.ifNo X0.here hx rfl (hb hby d1_11) rfl ((if0 _ _).trans (teq hc1).2) ?_
      show Steps p.tables e below (s₁.setTop (mkF m 14 #[.val (.int p0), .val (.long j1), .second, .val (.int p2), .val (.int (((p0.toUInt32 >>> (((2 : Int32) * p2) &&& 31).toUInt32).toInt32) &&& (3 : Int32)))] [])) _
      refine XS.bipush X0.here hx rfl (hb hby d1_14) ?_
      show Steps p.tables e below (s₁.setTop (mkF m 16 #[.val (.int p0), .val (.long j1), .second, .val (.int p2), .val (.int (((p0.toUInt32 >>> (((2 : Int32) * p2) &&& 31).toUInt32).toInt32) &&& (3 : Int32)))] [(.int (13 : Int32))])) _
      have hz : (Fp p0 j1 p2) = (13 : Int32) := by unfold Fp; rw [if_pos hc1]
      rw [hz] at hr
      exact retN X0 hx (t := .byte) Bd.returns (by simp) (hb hby d1_16) hr
    · refine XS.ifYes X0.here hx rfl (pc0 := 11) (pc' := 17) rfl (hb hby d1_11) rfl ((if0 _ _).trans (feq hc1).2) (by decide) (by decide) ?_
      show Steps p.tables e below (s₁.setTop (mkF m 17 #[.val (.int p0), .val (.long j1), .second, .val (.int p2), .val (.int (((p0.toUInt32 >>> (((2 : Int32) * p2) &&& 31).toUInt32).toInt32) &&& (3 : Int32)))] [])) _
      refine XS.iload X0.here hx rfl (hb hby d1_17) rfl ?_
      show Steps p.tables e below (s₁.setTop (mkF m 19 #[.val (.int p0), .val (.long j1), .second, .val (.int p2), .val (.int (((p0.toUInt32 >>> (((2 : Int32) * p2) &&& 31).toUInt32).toInt32) &&& (3 : Int32)))] [(.int (((p0.toUInt32 >>> (((2 : Int32) * p2) &&& 31).toUInt32).toInt32) &&& (3 : Int32)))])) _
      refine XS.iconst X0.here hx rfl (hb hby d1_19) ?_
      show Steps p.tables e below (s₁.setTop (mkF m 20 #[.val (.int p0), .val (.long j1), .second, .val (.int p2), .val (.int (((p0.toUInt32 >>> (((2 : Int32) * p2) &&& 31).toUInt32).toInt32) &&& (3 : Int32)))] [(.int (1 : Int32)), (.int (((p0.toUInt32 >>> (((2 : Int32) * p2) &&& 31).toUInt32).toInt32) &&& (3 : Int32)))])) _
      by_cases hc2 : (((p0.toUInt32 >>> (((2 : Int32) * p2) &&& 31).toUInt32).toInt32) &&& (3 : Int32)) = (1 : Int32)
      · refine XS.icmpNo X0.here hx rfl (hb hby d1_20) rfl (teq hc2).2 ?_
        show Steps p.tables e below (s₁.setTop (mkF m 23 #[.val (.int p0), .val (.long j1), .second, .val (.int p2), .val (.int (((p0.toUInt32 >>> (((2 : Int32) * p2) &&& 31).toUInt32).toInt32) &&& (3 : Int32)))] [])) _
        refine XS.bipush X0.here hx rfl (hb hby d1_23) ?_
        show Steps p.tables e below (s₁.setTop (mkF m 25 #[.val (.int p0), .val (.long j1), .second, .val (.int p2), .val (.int (((p0.toUInt32 >>> (((2 : Int32) * p2) &&& 31).toUInt32).toInt32) &&& (3 : Int32)))] [(.int (10 : Int32))])) _
        have hz : (Fp p0 j1 p2) = (10 : Int32) := by unfold Fp; rw [if_neg hc1, if_pos hc2]
        rw [hz] at hr
        exact retN X0 hx (t := .byte) Bd.returns (by simp) (hb hby d1_25) hr
      · refine XS.icmpYes X0.here hx rfl (pc0 := 20) (pc' := 26) rfl (hb hby d1_20) rfl (feq hc2).2 (by decide) (by decide) ?_
        show Steps p.tables e below (s₁.setTop (mkF m 26 #[.val (.int p0), .val (.long j1), .second, .val (.int p2), .val (.int (((p0.toUInt32 >>> (((2 : Int32) * p2) &&& 31).toUInt32).toInt32) &&& (3 : Int32)))] [])) _
        refine XS.lloadN X0.here hx rfl (hb hby d1_26) rfl ?_
        show Steps p.tables e below (s₁.setTop (mkF m 27 #[.val (.int p0), .val (.long j1), .second, .val (.int p2), .val (.int (((p0.toUInt32 >>> (((2 : Int32) * p2) &&& 31).toUInt32).toInt32) &&& (3 : Int32)))] [(.long j1)])) _
        refine XS.bipush X0.here hx rfl (hb hby d1_27) ?_
        show Steps p.tables e below (s₁.setTop (mkF m 29 #[.val (.int p0), .val (.long j1), .second, .val (.int p2), .val (.int (((p0.toUInt32 >>> (((2 : Int32) * p2) &&& 31).toUInt32).toInt32) &&& (3 : Int32)))] [(.int (8 : Int32)), (.long j1)])) _
        refine XS.iloadN X0.here hx rfl (hb hby d1_29) rfl ?_
        show Steps p.tables e below (s₁.setTop (mkF m 30 #[.val (.int p0), .val (.long j1), .second, .val (.int p2), .val (.int (((p0.toUInt32 >>> (((2 : Int32) * p2) &&& 31).toUInt32).toInt32) &&& (3 : Int32)))] [(.int p2), (.int (8 : Int32)), (.long j1)])) _
        refine XS.imul X0.here hx rfl (hb hby d1_30) rfl ?_
        show Steps p.tables e below (s₁.setTop (mkF m 31 #[.val (.int p0), .val (.long j1), .second, .val (.int p2), .val (.int (((p0.toUInt32 >>> (((2 : Int32) * p2) &&& 31).toUInt32).toInt32) &&& (3 : Int32)))] [(.int ((8 : Int32) * p2)), (.long j1)])) _
        refine XS.lushr X0.here hx rfl (hb hby d1_31) rfl ?_
        show Steps p.tables e below (s₁.setTop (mkF m 32 #[.val (.int p0), .val (.long j1), .second, .val (.int p2), .val (.int (((p0.toUInt32 >>> (((2 : Int32) * p2) &&& 31).toUInt32).toInt32) &&& (3 : Int32)))] [(.long ((j1.toUInt64 >>> (((8 : Int32) * p2) &&& 0x3f).toInt64.toUInt64).toInt64))])) _
        refine XS.l2i X0.here hx rfl (hb hby d1_32) rfl ?_
        show Steps p.tables e below (s₁.setTop (mkF m 33 #[.val (.int p0), .val (.long j1), .second, .val (.int p2), .val (.int (((p0.toUInt32 >>> (((2 : Int32) * p2) &&& 31).toUInt32).toInt32) &&& (3 : Int32)))] [(.int (((j1.toUInt64 >>> (((8 : Int32) * p2) &&& 0x3f).toInt64.toUInt64).toInt64).toInt32))])) _
        refine XS.i2b X0.here hx rfl (hb hby d1_33) rfl ?_
        show Steps p.tables e below (s₁.setTop (mkF m 34 #[.val (.int p0), .val (.long j1), .second, .val (.int p2), .val (.int (((p0.toUInt32 >>> (((2 : Int32) * p2) &&& 31).toUInt32).toInt32) &&& (3 : Int32)))] [(.int ((((j1.toUInt64 >>> (((8 : Int32) * p2) &&& 0x3f).toInt64.toUInt64).toInt64).toInt32).toInt8.toInt32))])) _
        have hz : (Fp p0 j1 p2) = (nar .byte ((((j1.toUInt64 >>> (((8 : Int32) * p2) &&& 0x3f).toInt64.toUInt64).toInt64).toInt32).toInt8.toInt32)) := by unfold Fp; rw [if_neg hc1, if_neg hc2]
        rw [hz] at hr
        exact retN X0 hx (t := .byte) Bd.returns (by simp) (hb hby d1_34) hr
  · show Q_rmP Z p0 j1 p2 h0 n0 _ s₁.heap _
    rw [e0]
    exact ⟨rfl, N0, rfl⟩

theorem d2_0 : decode method_3_code 0 = .ok (.iload_n 3, 1) := by decide +kernel
theorem d2_1 : decode method_3_code 1 = .ok (.iload_n 1, 1) := by decide +kernel
theorem d2_2 : decode method_3_code 2 = .ok (.if_icmp .lt 52, 3) := by decide +kernel
theorem d2_5 : decode method_3_code 5 = .ok (.iload_n 3, 1) := by decide +kernel
theorem d2_6 : decode method_3_code 6 = .ok (.iconst 4, 1) := by decide +kernel
theorem d2_7 : decode method_3_code 7 = .ok (.iadd, 1) := by decide +kernel
theorem d2_8 : decode method_3_code 8 = .ok (.iload_n 2, 1) := by decide +kernel
theorem d2_9 : decode method_3_code 9 = .ok (.if_icmp .gt 45, 3) := by decide +kernel
theorem d2_12 : decode method_3_code 12 = .ok (.aload_n 0, 1) := by decide +kernel
theorem d2_13 : decode method_3_code 13 = .ok (.iload_n 3, 1) := by decide +kernel
theorem d2_14 : decode method_3_code 14 = .ok (.baload, 1) := by decide +kernel
theorem d2_15 : decode method_3_code 15 = .ok (.bipush 13, 2) := by decide +kernel
theorem d2_17 : decode method_3_code 17 = .ok (.if_icmp .ne 37, 3) := by decide +kernel
theorem d2_20 : decode method_3_code 20 = .ok (.aload_n 0, 1) := by decide +kernel
theorem d2_21 : decode method_3_code 21 = .ok (.iload_n 3, 1) := by decide +kernel
theorem d2_22 : decode method_3_code 22 = .ok (.iconst 1, 1) := by decide +kernel
theorem d2_23 : decode method_3_code 23 = .ok (.iadd, 1) := by decide +kernel
theorem d2_24 : decode method_3_code 24 = .ok (.baload, 1) := by decide +kernel
theorem d2_25 : decode method_3_code 25 = .ok (.bipush 10, 2) := by decide +kernel
theorem d2_27 : decode method_3_code 27 = .ok (.if_icmp .ne 27, 3) := by decide +kernel
theorem d2_30 : decode method_3_code 30 = .ok (.aload_n 0, 1) := by decide +kernel
theorem d2_31 : decode method_3_code 31 = .ok (.iload_n 3, 1) := by decide +kernel
theorem d2_32 : decode method_3_code 32 = .ok (.iconst 2, 1) := by decide +kernel
theorem d2_33 : decode method_3_code 33 = .ok (.iadd, 1) := by decide +kernel
theorem d2_34 : decode method_3_code 34 = .ok (.baload, 1) := by decide +kernel
theorem d2_35 : decode method_3_code 35 = .ok (.bipush 13, 2) := by decide +kernel
theorem d2_37 : decode method_3_code 37 = .ok (.if_icmp .ne 17, 3) := by decide +kernel
theorem d2_40 : decode method_3_code 40 = .ok (.aload_n 0, 1) := by decide +kernel
theorem d2_41 : decode method_3_code 41 = .ok (.iload_n 3, 1) := by decide +kernel
theorem d2_42 : decode method_3_code 42 = .ok (.iconst 3, 1) := by decide +kernel
theorem d2_43 : decode method_3_code 43 = .ok (.iadd, 1) := by decide +kernel
theorem d2_44 : decode method_3_code 44 = .ok (.baload, 1) := by decide +kernel
theorem d2_45 : decode method_3_code 45 = .ok (.bipush 10, 2) := by decide +kernel
theorem d2_47 : decode method_3_code 47 = .ok (.if_icmp .ne 7, 3) := by decide +kernel
theorem d2_50 : decode method_3_code 50 = .ok (.iconst 1, 1) := by decide +kernel
theorem d2_51 : decode method_3_code 51 = .ok (.goto 4, 3) := by decide +kernel
theorem d2_54 : decode method_3_code 54 = .ok (.iconst 0, 1) := by decide +kernel
theorem d2_55 : decode method_3_code 55 = .ok (.ireturn, 1) := by decide +kernel
theorem pn_rmH : plainName "com/example/lettr/lettr/bench/OpeningHeadEndPinLaw" = true := by first | (simp [plainName, overriddenIn]; done) | decide +kernel
theorem ef_rmH (m : MethodId) (o0 : Addr) (p1 : Int32) (p2 : Int32) (p3 : Int32) : entryFrame m #[(.ref o0), (.int p1), (.int p2), (.int p3)] 4 = mkF m 0 #[.val (.ref o0), .val (.int p1), .val (.int p2), .val (.int p3)] [] := by first | (simp [entryFrame, mkF, argsToLocals, Value.category]; done) | rfl
def M_hit (p1 : Int32) (p2 : Int32) (p3 : Int32) (xs : List Int32) : Option (Int32) := (if p3 < p1 then some (0 : Int32) else (if p2 < (p3 + (4 : Int32)) then some (0 : Int32) else (Own.rd xs p3).bind fun v12 => (if v12 = (13 : Int32) then (Own.rd xs (p3 + (1 : Int32))).bind fun v18 => (if v18 = (10 : Int32) then (Own.rd xs (p3 + (2 : Int32))).bind fun v24 => (if v24 = (13 : Int32) then (Own.rd xs (p3 + (3 : Int32))).bind fun v30 => (if v30 = (10 : Int32) then some (1 : Int32) else some (0 : Int32)) else some (0 : Int32)) else some (0 : Int32)) else some (0 : Int32))))
def Q_rmH (Z : State) (o0 : Addr) (p1 : Int32) (p2 : Int32) (p3 : Int32) (xs : List Int32) (out : Int32) (h0 : Heap) (n0 : Nat) (v : Option Value) (h : Heap) (L : List Loc) : Prop := v = some (.int out) ∧ Fr n0 L ∧ h = h0
set_option maxRecDepth 65536 in
set_option maxHeartbeats 40000000 in
theorem rmH (l : Launch) (Z : State) (a0 : Array Value) (hw : ∀ d ∈ tables_1, d.before a0 Z = true) (ws : List Jvm.Cond) (o0 : Addr) (p1 : Int32) (p2 : Int32) (p3 : Int32) (xs : List Int32) (out : Int32) (h0 : Heap) (n0 : Nat) (Z0 : n0 ≤ h0.size) (I_o0 : Own.BA Z h0 o0 xs) (hM : M_hit p1 p2 p3 xs = some out) :
    MetFree l (⟨"com/example/lettr/lettr/bench/OpeningHeadEndPinLaw", "hit", "([BIII)Z"⟩ : MethodName) (head1 (Jvm.Cond.code (⟨"com/example/lettr/lettr/bench/OpeningHeadEndPinLaw", "hit", "([BIII)Z"⟩ : MethodName) method_3_code 4 (some .boolean) :: ws) ({ frames := 0, cells := 0, slots := 0, locals := 0 } : Room)) (fun a U => a = #[(.ref o0), (.int p1), (.int p2), (.int p3)] ∧ Z.Warmed39 U.vm ∧ U.heap = h0) (fun _ _ _ _ _ => True) (fun _ U o U' => ∃ v L, o = .returned v ∧ Q_rmH Z o0 p1 p2 p3 xs out h0 n0 v U'.heap L ∧ FrameEnd U o U' L ({ frames := 0, cells := 0, slots := 0, locals := 0 } : Room).cells ({ frames := 0, cells := 0, slots := 0, locals := 0 } : Room).slots) := by
  refine MetFree.of_bodySF (plainFor_of_name pn_rmH) hisR ?_
  intro p e s m args below meth c s₁ Bd hml0 hP hK
  obtain ⟨rfl, hZ, hh⟩ := hP
  have hx := Bd.exec
  have hby := Bd.bytes
  have hml : c.maxLocals = 4 := hml0
  have hown : s.vm.findClass "com/example/lettr/lettr/bench/OpeningHeadEndPinLaw" = some m.cls := findClass_of_methodNamed Bd.named
  have hnm := (name_of_methodNamed Bd.named Bd.method).1
  have X0 : Stand p l e ({ frames := 0, cells := 0, slots := 0, locals := 0 } : Room) s m #[(.ref o0), (.int p1), (.int p2), (.int p3)] below meth c s₁ [] 0 0 := Stand.of_body Bd
  have e0 : s₁.heap = h0 := by rw [← hh, Bd.state]; rfl
  have N0 := Fr.nil n0
  have q0 : Steps p.tables e below (s₁.setTop (entryFrame m #[(.ref o0), (.int p1), (.int p2), (.int p3)] 4)) (s₁.setTop (mkF m 0 #[.val (.ref o0), .val (.int p1), .val (.int p2), .val (.int p3)] [])) := castTop (ef_rmH m o0 p1 p2 p3) (Steps.refl _)
  unfold M_hit at hM
  have q1 : Steps p.tables e below (s₁.setTop (entryFrame m #[(.ref o0), (.int p1), (.int p2), (.int p3)] 4)) (s₁.setTop (mkF m 2 #[.val (.ref o0), .val (.int p1), .val (.int p2), .val (.int p3)] [(.int p1), (.int p3)])) := q0.trans (by
      show Steps p.tables e below (s₁.setTop (mkF m 0 #[.val (.ref o0), .val (.int p1), .val (.int p2), .val (.int p3)] [])) _
      refine XS.iloadN X0.here hx rfl (hb hby d2_0) rfl ?_
      show Steps p.tables e below (s₁.setTop (mkF m 1 #[.val (.ref o0), .val (.int p1), .val (.int p2), .val (.int p3)] [(.int p3)])) _
      refine XS.iloadN X0.here hx rfl (hb hby d2_1) rfl ?_
      show Steps p.tables e below (s₁.setTop (mkF m 2 #[.val (.ref o0), .val (.int p1), .val (.int p2), .val (.int p3)] [(.int p1), (.int p3)])) _
      exact Steps.refl _)
  by_cases hc2 : p3 < p1
  · rw [if_pos hc2] at hM
    have q3 : Steps p.tables e below (s₁.setTop (entryFrame m #[(.ref o0), (.int p1), (.int p2), (.int p3)] 4)) (s₁.setTop (mkF m 54 #[.val (.ref o0), .val (.int p1), .val (.int p2), .val (.int p3)] [])) := q1.trans (by
        show Steps p.tables e below (s₁.setTop (mkF m 2 #[.val (.ref o0), .val (.int p1), .val (.int p2), .val (.int p3)] [(.int p1), (.int p3)])) _
        refine XS.icmpYes X0.here hx rfl (pc0 := 2) (pc' := 54) rfl (hb hby d2_2) rfl (tlt hc2).1 (by decide) (by decide) ?_
        show Steps p.tables e below (s₁.setTop (mkF m 54 #[.val (.ref o0), .val (.int p1), .val (.int p2), .val (.int p3)] [])) _
        exact Steps.refl _)
    have q4 : Steps p.tables e below (s₁.setTop (entryFrame m #[(.ref o0), (.int p1), (.int p2), (.int p3)] 4)) (s₁.setTop (mkF m 55 #[.val (.ref o0), .val (.int p1), .val (.int p2), .val (.int p3)] [(.int (0 : Int32))])) := q3.trans (by
        show Steps p.tables e below (s₁.setTop (mkF m 54 #[.val (.ref o0), .val (.int p1), .val (.int p2), .val (.int p3)] [])) _
        refine XS.iconst X0.here hx rfl (hb hby d2_54) ?_
        show Steps p.tables e below (s₁.setTop (mkF m 55 #[.val (.ref o0), .val (.int p1), .val (.int p2), .val (.int p3)] [(.int (0 : Int32))])) _
        exact Steps.refl _)
    obtain rfl := Option.some.inj hM
    obtain ⟨fs, hr, hrun, hended, hW, hsame⟩ := X0.leave (v := some (.int (0 : Int32))) (fun h => by rw [Bd.returns] at h; cases h)
    refine ⟨_, _, q4.trans ?_, hrun, hended, _, _, rfl, ?_, ⟨_, rfl⟩, hW, hsame.mono (by decide) (by decide)⟩
    · exact retN X0 hx (t := .boolean) Bd.returns (by simp) (hb hby d2_55) hr
    · show Q_rmH Z o0 p1 p2 p3 xs _ h0 n0 _ s₁.heap _
      rw [e0]
      exact ⟨rfl, N0, rfl⟩
  · rw [if_neg hc2] at hM
    have q5 : Steps p.tables e below (s₁.setTop (entryFrame m #[(.ref o0), (.int p1), (.int p2), (.int p3)] 4)) (s₁.setTop (mkF m 5 #[.val (.ref o0), .val (.int p1), .val (.int p2), .val (.int p3)] [])) := q1.trans (by
        show Steps p.tables e below (s₁.setTop (mkF m 2 #[.val (.ref o0), .val (.int p1), .val (.int p2), .val (.int p3)] [(.int p1), (.int p3)])) _
        refine XS.icmpNo X0.here hx rfl (hb hby d2_2) rfl (flt hc2).1 ?_
        show Steps p.tables e below (s₁.setTop (mkF m 5 #[.val (.ref o0), .val (.int p1), .val (.int p2), .val (.int p3)] [])) _
        exact Steps.refl _)
    have q6 : Steps p.tables e below (s₁.setTop (entryFrame m #[(.ref o0), (.int p1), (.int p2), (.int p3)] 4)) (s₁.setTop (mkF m 9 #[.val (.ref o0), .val (.int p1), .val (.int p2), .val (.int p3)] [(.int p2), (.int (p3 + (4 : Int32)))])) := q5.trans (by
        show Steps p.tables e below (s₁.setTop (mkF m 5 #[.val (.ref o0), .val (.int p1), .val (.int p2), .val (.int p3)] [])) _
        refine XS.iloadN X0.here hx rfl (hb hby d2_5) rfl ?_
        show Steps p.tables e below (s₁.setTop (mkF m 6 #[.val (.ref o0), .val (.int p1), .val (.int p2), .val (.int p3)] [(.int p3)])) _
        refine XS.iconst X0.here hx rfl (hb hby d2_6) ?_
        show Steps p.tables e below (s₁.setTop (mkF m 7 #[.val (.ref o0), .val (.int p1), .val (.int p2), .val (.int p3)] [(.int (4 : Int32)), (.int p3)])) _
        refine XS.iadd X0.here hx rfl (hb hby d2_7) rfl ?_
        show Steps p.tables e below (s₁.setTop (mkF m 8 #[.val (.ref o0), .val (.int p1), .val (.int p2), .val (.int p3)] [(.int (p3 + (4 : Int32)))])) _
        refine XS.iloadN X0.here hx rfl (hb hby d2_8) rfl ?_
        show Steps p.tables e below (s₁.setTop (mkF m 9 #[.val (.ref o0), .val (.int p1), .val (.int p2), .val (.int p3)] [(.int p2), (.int (p3 + (4 : Int32)))])) _
        exact Steps.refl _)
    by_cases hc7 : p2 < (p3 + (4 : Int32))
    · rw [if_pos hc7] at hM
      have q8 : Steps p.tables e below (s₁.setTop (entryFrame m #[(.ref o0), (.int p1), (.int p2), (.int p3)] 4)) (s₁.setTop (mkF m 54 #[.val (.ref o0), .val (.int p1), .val (.int p2), .val (.int p3)] [])) := q6.trans (by
          show Steps p.tables e below (s₁.setTop (mkF m 9 #[.val (.ref o0), .val (.int p1), .val (.int p2), .val (.int p3)] [(.int p2), (.int (p3 + (4 : Int32)))])) _
          refine XS.icmpYes X0.here hx rfl (pc0 := 9) (pc' := 54) rfl (hb hby d2_9) rfl (tlt hc7).2.2.1 (by decide) (by decide) ?_
          show Steps p.tables e below (s₁.setTop (mkF m 54 #[.val (.ref o0), .val (.int p1), .val (.int p2), .val (.int p3)] [])) _
          exact Steps.refl _)
      have q9 : Steps p.tables e below (s₁.setTop (entryFrame m #[(.ref o0), (.int p1), (.int p2), (.int p3)] 4)) (s₁.setTop (mkF m 55 #[.val (.ref o0), .val (.int p1), .val (.int p2), .val (.int p3)] [(.int (0 : Int32))])) := q8.trans (by
          show Steps p.tables e below (s₁.setTop (mkF m 54 #[.val (.ref o0), .val (.int p1), .val (.int p2), .val (.int p3)] [])) _
          refine XS.iconst X0.here hx rfl (hb hby d2_54) ?_
          show Steps p.tables e below (s₁.setTop (mkF m 55 #[.val (.ref o0), .val (.int p1), .val (.int p2), .val (.int p3)] [(.int (0 : Int32))])) _
          exact Steps.refl _)
      obtain rfl := Option.some.inj hM
      obtain ⟨fs, hr, hrun, hended, hW, hsame⟩ := X0.leave (v := some (.int (0 : Int32))) (fun h => by rw [Bd.returns] at h; cases h)
      refine ⟨_, _, q9.trans ?_, hrun, hended, _, _, rfl, ?_, ⟨_, rfl⟩, hW, hsame.mono (by decide) (by decide)⟩
      · exact retN X0 hx (t := .boolean) Bd.returns (by simp) (hb hby d2_55) hr
      · show Q_rmH Z o0 p1 p2 p3 xs _ h0 n0 _ s₁.heap _
        rw [e0]
        exact ⟨rfl, N0, rfl⟩
    · rw [if_neg hc7] at hM
      have q10 : Steps p.tables e below (s₁.setTop (entryFrame m #[(.ref o0), (.int p1), (.int p2), (.int p3)] 4)) (s₁.setTop (mkF m 12 #[.val (.ref o0), .val (.int p1), .val (.int p2), .val (.int p3)] [])) := q6.trans (by
          show Steps p.tables e below (s₁.setTop (mkF m 9 #[.val (.ref o0), .val (.int p1), .val (.int p2), .val (.int p3)] [(.int p2), (.int (p3 + (4 : Int32)))])) _
          refine XS.icmpNo X0.here hx rfl (hb hby d2_9) rfl (flt hc7).2.2.1 ?_
          show Steps p.tables e below (s₁.setTop (mkF m 12 #[.val (.ref o0), .val (.int p1), .val (.int p2), .val (.int p3)] [])) _
          exact Steps.refl _)
      have q11 : Steps p.tables e below (s₁.setTop (entryFrame m #[(.ref o0), (.int p1), (.int p2), (.int p3)] 4)) (s₁.setTop (mkF m 14 #[.val (.ref o0), .val (.int p1), .val (.int p2), .val (.int p3)] [(.int p3), (.ref o0)])) := q10.trans (by
          show Steps p.tables e below (s₁.setTop (mkF m 12 #[.val (.ref o0), .val (.int p1), .val (.int p2), .val (.int p3)] [])) _
          refine XS.aloadN X0.here hx rfl (hb hby d2_12) rfl rfl ?_
          show Steps p.tables e below (s₁.setTop (mkF m 13 #[.val (.ref o0), .val (.int p1), .val (.int p2), .val (.int p3)] [(.ref o0)])) _
          refine XS.iloadN X0.here hx rfl (hb hby d2_13) rfl ?_
          show Steps p.tables e below (s₁.setTop (mkF m 14 #[.val (.ref o0), .val (.int p1), .val (.int p2), .val (.int p3)] [(.int p3), (.ref o0)])) _
          exact Steps.refl _)
      obtain ⟨v12, hv12, hM⟩ := Option.bind_eq_some_iff.mp hM
      have q13 : Steps p.tables e below (s₁.setTop (entryFrame m #[(.ref o0), (.int p1), (.int p2), (.int p3)] 4)) (s₁.setTop (mkF m 15 #[.val (.ref o0), .val (.int p1), .val (.int p2), .val (.int p3)] [(.int v12)])) := q11.trans (Own.ldBO X0 hx hZ e0 I_o0 hv12 (g := (mkF m 14 #[.val (.ref o0), .val (.int p1), .val (.int p2), .val (.int p3)] [(.int p3), (.ref o0)])) rfl rfl (hb hby d2_14) _ (Steps.refl _))
      have q14 : Steps p.tables e below (s₁.setTop (entryFrame m #[(.ref o0), (.int p1), (.int p2), (.int p3)] 4)) (s₁.setTop (mkF m 17 #[.val (.ref o0), .val (.int p1), .val (.int p2), .val (.int p3)] [(.int (13 : Int32)), (.int v12)])) := q13.trans (by
          show Steps p.tables e below (s₁.setTop (mkF m 15 #[.val (.ref o0), .val (.int p1), .val (.int p2), .val (.int p3)] [(.int v12)])) _
          refine XS.bipush X0.here hx rfl (hb hby d2_15) ?_
          show Steps p.tables e below (s₁.setTop (mkF m 17 #[.val (.ref o0), .val (.int p1), .val (.int p2), .val (.int p3)] [(.int (13 : Int32)), (.int v12)])) _
          exact Steps.refl _)
      by_cases hc15 : v12 = (13 : Int32)
      · rw [if_pos hc15] at hM
        have q16 : Steps p.tables e below (s₁.setTop (entryFrame m #[(.ref o0), (.int p1), (.int p2), (.int p3)] 4)) (s₁.setTop (mkF m 20 #[.val (.ref o0), .val (.int p1), .val (.int p2), .val (.int p3)] [])) := q14.trans (by
            show Steps p.tables e below (s₁.setTop (mkF m 17 #[.val (.ref o0), .val (.int p1), .val (.int p2), .val (.int p3)] [(.int (13 : Int32)), (.int v12)])) _
            refine XS.icmpNo X0.here hx rfl (hb hby d2_17) rfl (teq hc15).2 ?_
            show Steps p.tables e below (s₁.setTop (mkF m 20 #[.val (.ref o0), .val (.int p1), .val (.int p2), .val (.int p3)] [])) _
            exact Steps.refl _)
        have q17 : Steps p.tables e below (s₁.setTop (entryFrame m #[(.ref o0), (.int p1), (.int p2), (.int p3)] 4)) (s₁.setTop (mkF m 24 #[.val (.ref o0), .val (.int p1), .val (.int p2), .val (.int p3)] [(.int (p3 + (1 : Int32))), (.ref o0)])) := q16.trans (by
            show Steps p.tables e below (s₁.setTop (mkF m 20 #[.val (.ref o0), .val (.int p1), .val (.int p2), .val (.int p3)] [])) _
            refine XS.aloadN X0.here hx rfl (hb hby d2_20) rfl rfl ?_
            show Steps p.tables e below (s₁.setTop (mkF m 21 #[.val (.ref o0), .val (.int p1), .val (.int p2), .val (.int p3)] [(.ref o0)])) _
            refine XS.iloadN X0.here hx rfl (hb hby d2_21) rfl ?_
            show Steps p.tables e below (s₁.setTop (mkF m 22 #[.val (.ref o0), .val (.int p1), .val (.int p2), .val (.int p3)] [(.int p3), (.ref o0)])) _
            refine XS.iconst X0.here hx rfl (hb hby d2_22) ?_
            show Steps p.tables e below (s₁.setTop (mkF m 23 #[.val (.ref o0), .val (.int p1), .val (.int p2), .val (.int p3)] [(.int (1 : Int32)), (.int p3), (.ref o0)])) _
            refine XS.iadd X0.here hx rfl (hb hby d2_23) rfl ?_
            show Steps p.tables e below (s₁.setTop (mkF m 24 #[.val (.ref o0), .val (.int p1), .val (.int p2), .val (.int p3)] [(.int (p3 + (1 : Int32))), (.ref o0)])) _
            exact Steps.refl _)
        obtain ⟨v18, hv18, hM⟩ := Option.bind_eq_some_iff.mp hM
        have q19 : Steps p.tables e below (s₁.setTop (entryFrame m #[(.ref o0), (.int p1), (.int p2), (.int p3)] 4)) (s₁.setTop (mkF m 25 #[.val (.ref o0), .val (.int p1), .val (.int p2), .val (.int p3)] [(.int v18)])) := q17.trans (Own.ldBO X0 hx hZ e0 I_o0 hv18 (g := (mkF m 24 #[.val (.ref o0), .val (.int p1), .val (.int p2), .val (.int p3)] [(.int (p3 + (1 : Int32))), (.ref o0)])) rfl rfl (hb hby d2_24) _ (Steps.refl _))
        have q20 : Steps p.tables e below (s₁.setTop (entryFrame m #[(.ref o0), (.int p1), (.int p2), (.int p3)] 4)) (s₁.setTop (mkF m 27 #[.val (.ref o0), .val (.int p1), .val (.int p2), .val (.int p3)] [(.int (10 : Int32)), (.int v18)])) := q19.trans (by
            show Steps p.tables e below (s₁.setTop (mkF m 25 #[.val (.ref o0), .val (.int p1), .val (.int p2), .val (.int p3)] [(.int v18)])) _
            refine XS.bipush X0.here hx rfl (hb hby d2_25) ?_
            show Steps p.tables e below (s₁.setTop (mkF m 27 #[.val (.ref o0), .val (.int p1), .val (.int p2), .val (.int p3)] [(.int (10 : Int32)), (.int v18)])) _
            exact Steps.refl _)
        by_cases hc21 : v18 = (10 : Int32)
        · rw [if_pos hc21] at hM
          have q22 : Steps p.tables e below (s₁.setTop (entryFrame m #[(.ref o0), (.int p1), (.int p2), (.int p3)] 4)) (s₁.setTop (mkF m 30 #[.val (.ref o0), .val (.int p1), .val (.int p2), .val (.int p3)] [])) := q20.trans (by
              show Steps p.tables e below (s₁.setTop (mkF m 27 #[.val (.ref o0), .val (.int p1), .val (.int p2), .val (.int p3)] [(.int (10 : Int32)), (.int v18)])) _
              refine XS.icmpNo X0.here hx rfl (hb hby d2_27) rfl (teq hc21).2 ?_
              show Steps p.tables e below (s₁.setTop (mkF m 30 #[.val (.ref o0), .val (.int p1), .val (.int p2), .val (.int p3)] [])) _
              exact Steps.refl _)
          have q23 : Steps p.tables e below (s₁.setTop (entryFrame m #[(.ref o0), (.int p1), (.int p2), (.int p3)] 4)) (s₁.setTop (mkF m 34 #[.val (.ref o0), .val (.int p1), .val (.int p2), .val (.int p3)] [(.int (p3 + (2 : Int32))), (.ref o0)])) := q22.trans (by
              show Steps p.tables e below (s₁.setTop (mkF m 30 #[.val (.ref o0), .val (.int p1), .val (.int p2), .val (.int p3)] [])) _
              refine XS.aloadN X0.here hx rfl (hb hby d2_30) rfl rfl ?_
              show Steps p.tables e below (s₁.setTop (mkF m 31 #[.val (.ref o0), .val (.int p1), .val (.int p2), .val (.int p3)] [(.ref o0)])) _
              refine XS.iloadN X0.here hx rfl (hb hby d2_31) rfl ?_
              show Steps p.tables e below (s₁.setTop (mkF m 32 #[.val (.ref o0), .val (.int p1), .val (.int p2), .val (.int p3)] [(.int p3), (.ref o0)])) _
              refine XS.iconst X0.here hx rfl (hb hby d2_32) ?_
              show Steps p.tables e below (s₁.setTop (mkF m 33 #[.val (.ref o0), .val (.int p1), .val (.int p2), .val (.int p3)] [(.int (2 : Int32)), (.int p3), (.ref o0)])) _
              refine XS.iadd X0.here hx rfl (hb hby d2_33) rfl ?_
              show Steps p.tables e below (s₁.setTop (mkF m 34 #[.val (.ref o0), .val (.int p1), .val (.int p2), .val (.int p3)] [(.int (p3 + (2 : Int32))), (.ref o0)])) _
              exact Steps.refl _)
          obtain ⟨v24, hv24, hM⟩ := Option.bind_eq_some_iff.mp hM
          have q25 : Steps p.tables e below (s₁.setTop (entryFrame m #[(.ref o0), (.int p1), (.int p2), (.int p3)] 4)) (s₁.setTop (mkF m 35 #[.val (.ref o0), .val (.int p1), .val (.int p2), .val (.int p3)] [(.int v24)])) := q23.trans (Own.ldBO X0 hx hZ e0 I_o0 hv24 (g := (mkF m 34 #[.val (.ref o0), .val (.int p1), .val (.int p2), .val (.int p3)] [(.int (p3 + (2 : Int32))), (.ref o0)])) rfl rfl (hb hby d2_34) _ (Steps.refl _))
          have q26 : Steps p.tables e below (s₁.setTop (entryFrame m #[(.ref o0), (.int p1), (.int p2), (.int p3)] 4)) (s₁.setTop (mkF m 37 #[.val (.ref o0), .val (.int p1), .val (.int p2), .val (.int p3)] [(.int (13 : Int32)), (.int v24)])) := q25.trans (by
              show Steps p.tables e below (s₁.setTop (mkF m 35 #[.val (.ref o0), .val (.int p1), .val (.int p2), .val (.int p3)] [(.int v24)])) _
              refine XS.bipush X0.here hx rfl (hb hby d2_35) ?_
              show Steps p.tables e below (s₁.setTop (mkF m 37 #[.val (.ref o0), .val (.int p1), .val (.int p2), .val (.int p3)] [(.int (13 : Int32)), (.int v24)])) _
              exact Steps.refl _)
          by_cases hc27 : v24 = (13 : Int32)
          · rw [if_pos hc27] at hM
            have q28 : Steps p.tables e below (s₁.setTop (entryFrame m #[(.ref o0), (.int p1), (.int p2), (.int p3)] 4)) (s₁.setTop (mkF m 40 #[.val (.ref o0), .val (.int p1), .val (.int p2), .val (.int p3)] [])) := q26.trans (by
                show Steps p.tables e below (s₁.setTop (mkF m 37 #[.val (.ref o0), .val (.int p1), .val (.int p2), .val (.int p3)] [(.int (13 : Int32)), (.int v24)])) _
                refine XS.icmpNo X0.here hx rfl (hb hby d2_37) rfl (teq hc27).2 ?_
                show Steps p.tables e below (s₁.setTop (mkF m 40 #[.val (.ref o0), .val (.int p1), .val (.int p2), .val (.int p3)] [])) _
                exact Steps.refl _)
            have q29 : Steps p.tables e below (s₁.setTop (entryFrame m #[(.ref o0), (.int p1), (.int p2), (.int p3)] 4)) (s₁.setTop (mkF m 44 #[.val (.ref o0), .val (.int p1), .val (.int p2), .val (.int p3)] [(.int (p3 + (3 : Int32))), (.ref o0)])) := q28.trans (by
                show Steps p.tables e below (s₁.setTop (mkF m 40 #[.val (.ref o0), .val (.int p1), .val (.int p2), .val (.int p3)] [])) _
                refine XS.aloadN X0.here hx rfl (hb hby d2_40) rfl rfl ?_
                show Steps p.tables e below (s₁.setTop (mkF m 41 #[.val (.ref o0), .val (.int p1), .val (.int p2), .val (.int p3)] [(.ref o0)])) _
                refine XS.iloadN X0.here hx rfl (hb hby d2_41) rfl ?_
                show Steps p.tables e below (s₁.setTop (mkF m 42 #[.val (.ref o0), .val (.int p1), .val (.int p2), .val (.int p3)] [(.int p3), (.ref o0)])) _
                refine XS.iconst X0.here hx rfl (hb hby d2_42) ?_
                show Steps p.tables e below (s₁.setTop (mkF m 43 #[.val (.ref o0), .val (.int p1), .val (.int p2), .val (.int p3)] [(.int (3 : Int32)), (.int p3), (.ref o0)])) _
                refine XS.iadd X0.here hx rfl (hb hby d2_43) rfl ?_
                show Steps p.tables e below (s₁.setTop (mkF m 44 #[.val (.ref o0), .val (.int p1), .val (.int p2), .val (.int p3)] [(.int (p3 + (3 : Int32))), (.ref o0)])) _
                exact Steps.refl _)
            obtain ⟨v30, hv30, hM⟩ := Option.bind_eq_some_iff.mp hM
            have q31 : Steps p.tables e below (s₁.setTop (entryFrame m #[(.ref o0), (.int p1), (.int p2), (.int p3)] 4)) (s₁.setTop (mkF m 45 #[.val (.ref o0), .val (.int p1), .val (.int p2), .val (.int p3)] [(.int v30)])) := q29.trans (Own.ldBO X0 hx hZ e0 I_o0 hv30 (g := (mkF m 44 #[.val (.ref o0), .val (.int p1), .val (.int p2), .val (.int p3)] [(.int (p3 + (3 : Int32))), (.ref o0)])) rfl rfl (hb hby d2_44) _ (Steps.refl _))
            have q32 : Steps p.tables e below (s₁.setTop (entryFrame m #[(.ref o0), (.int p1), (.int p2), (.int p3)] 4)) (s₁.setTop (mkF m 47 #[.val (.ref o0), .val (.int p1), .val (.int p2), .val (.int p3)] [(.int (10 : Int32)), (.int v30)])) := q31.trans (by
                show Steps p.tables e below (s₁.setTop (mkF m 45 #[.val (.ref o0), .val (.int p1), .val (.int p2), .val (.int p3)] [(.int v30)])) _
                refine XS.bipush X0.here hx rfl (hb hby d2_45) ?_
                show Steps p.tables e below (s₁.setTop (mkF m 47 #[.val (.ref o0), .val (.int p1), .val (.int p2), .val (.int p3)] [(.int (10 : Int32)), (.int v30)])) _
                exact Steps.refl _)
            by_cases hc33 : v30 = (10 : Int32)
            · rw [if_pos hc33] at hM
              have q34 : Steps p.tables e below (s₁.setTop (entryFrame m #[(.ref o0), (.int p1), (.int p2), (.int p3)] 4)) (s₁.setTop (mkF m 50 #[.val (.ref o0), .val (.int p1), .val (.int p2), .val (.int p3)] [])) := q32.trans (by
                  show Steps p.tables e below (s₁.setTop (mkF m 47 #[.val (.ref o0), .val (.int p1), .val (.int p2), .val (.int p3)] [(.int (10 : Int32)), (.int v30)])) _
                  refine XS.icmpNo X0.here hx rfl (hb hby d2_47) rfl (teq hc33).2 ?_
                  show Steps p.tables e below (s₁.setTop (mkF m 50 #[.val (.ref o0), .val (.int p1), .val (.int p2), .val (.int p3)] [])) _
                  exact Steps.refl _)
              have q35 : Steps p.tables e below (s₁.setTop (entryFrame m #[(.ref o0), (.int p1), (.int p2), (.int p3)] 4)) (s₁.setTop (mkF m 55 #[.val (.ref o0), .val (.int p1), .val (.int p2), .val (.int p3)] [(.int (1 : Int32))])) := q34.trans (by
                  show Steps p.tables e below (s₁.setTop (mkF m 50 #[.val (.ref o0), .val (.int p1), .val (.int p2), .val (.int p3)] [])) _
                  refine XS.iconst X0.here hx rfl (hb hby d2_50) ?_
                  show Steps p.tables e below (s₁.setTop (mkF m 51 #[.val (.ref o0), .val (.int p1), .val (.int p2), .val (.int p3)] [(.int (1 : Int32))])) _
                  refine XS.goto X0.here hx rfl (pc0 := 51) (pc' := 55) rfl (hb hby d2_51) (by decide) (by decide) ?_
                  show Steps p.tables e below (s₁.setTop (mkF m 55 #[.val (.ref o0), .val (.int p1), .val (.int p2), .val (.int p3)] [(.int (1 : Int32))])) _
                  exact Steps.refl _)
              obtain rfl := Option.some.inj hM
              obtain ⟨fs, hr, hrun, hended, hW, hsame⟩ := X0.leave (v := some (.int (1 : Int32))) (fun h => by rw [Bd.returns] at h; cases h)
              refine ⟨_, _, q35.trans ?_, hrun, hended, _, _, rfl, ?_, ⟨_, rfl⟩, hW, hsame.mono (by decide) (by decide)⟩
              · exact retN X0 hx (t := .boolean) Bd.returns (by simp) (hb hby d2_55) hr
              · show Q_rmH Z o0 p1 p2 p3 xs _ h0 n0 _ s₁.heap _
                rw [e0]
                exact ⟨rfl, N0, rfl⟩
            · rw [if_neg hc33] at hM
              have q36 : Steps p.tables e below (s₁.setTop (entryFrame m #[(.ref o0), (.int p1), (.int p2), (.int p3)] 4)) (s₁.setTop (mkF m 54 #[.val (.ref o0), .val (.int p1), .val (.int p2), .val (.int p3)] [])) := q32.trans (by
                  show Steps p.tables e below (s₁.setTop (mkF m 47 #[.val (.ref o0), .val (.int p1), .val (.int p2), .val (.int p3)] [(.int (10 : Int32)), (.int v30)])) _
                  refine XS.icmpYes X0.here hx rfl (pc0 := 47) (pc' := 54) rfl (hb hby d2_47) rfl (feq hc33).2 (by decide) (by decide) ?_
                  show Steps p.tables e below (s₁.setTop (mkF m 54 #[.val (.ref o0), .val (.int p1), .val (.int p2), .val (.int p3)] [])) _
                  exact Steps.refl _)
              have q37 : Steps p.tables e below (s₁.setTop (entryFrame m #[(.ref o0), (.int p1), (.int p2), (.int p3)] 4)) (s₁.setTop (mkF m 55 #[.val (.ref o0), .val (.int p1), .val (.int p2), .val (.int p3)] [(.int (0 : Int32))])) := q36.trans (by
                  show Steps p.tables e below (s₁.setTop (mkF m 54 #[.val (.ref o0), .val (.int p1), .val (.int p2), .val (.int p3)] [])) _
                  refine XS.iconst X0.here hx rfl (hb hby d2_54) ?_
                  show Steps p.tables e below (s₁.setTop (mkF m 55 #[.val (.ref o0), .val (.int p1), .val (.int p2), .val (.int p3)] [(.int (0 : Int32))])) _
                  exact Steps.refl _)
              obtain rfl := Option.some.inj hM
              obtain ⟨fs, hr, hrun, hended, hW, hsame⟩ := X0.leave (v := some (.int (0 : Int32))) (fun h => by rw [Bd.returns] at h; cases h)
              refine ⟨_, _, q37.trans ?_, hrun, hended, _, _, rfl, ?_, ⟨_, rfl⟩, hW, hsame.mono (by decide) (by decide)⟩
              · exact retN X0 hx (t := .boolean) Bd.returns (by simp) (hb hby d2_55) hr
              · show Q_rmH Z o0 p1 p2 p3 xs _ h0 n0 _ s₁.heap _
                rw [e0]
                exact ⟨rfl, N0, rfl⟩
          · rw [if_neg hc27] at hM
            have q38 : Steps p.tables e below (s₁.setTop (entryFrame m #[(.ref o0), (.int p1), (.int p2), (.int p3)] 4)) (s₁.setTop (mkF m 54 #[.val (.ref o0), .val (.int p1), .val (.int p2), .val (.int p3)] [])) := q26.trans (by
                show Steps p.tables e below (s₁.setTop (mkF m 37 #[.val (.ref o0), .val (.int p1), .val (.int p2), .val (.int p3)] [(.int (13 : Int32)), (.int v24)])) _
                refine XS.icmpYes X0.here hx rfl (pc0 := 37) (pc' := 54) rfl (hb hby d2_37) rfl (feq hc27).2 (by decide) (by decide) ?_
                show Steps p.tables e below (s₁.setTop (mkF m 54 #[.val (.ref o0), .val (.int p1), .val (.int p2), .val (.int p3)] [])) _
                exact Steps.refl _)
            have q39 : Steps p.tables e below (s₁.setTop (entryFrame m #[(.ref o0), (.int p1), (.int p2), (.int p3)] 4)) (s₁.setTop (mkF m 55 #[.val (.ref o0), .val (.int p1), .val (.int p2), .val (.int p3)] [(.int (0 : Int32))])) := q38.trans (by
                show Steps p.tables e below (s₁.setTop (mkF m 54 #[.val (.ref o0), .val (.int p1), .val (.int p2), .val (.int p3)] [])) _
                refine XS.iconst X0.here hx rfl (hb hby d2_54) ?_
                show Steps p.tables e below (s₁.setTop (mkF m 55 #[.val (.ref o0), .val (.int p1), .val (.int p2), .val (.int p3)] [(.int (0 : Int32))])) _
                exact Steps.refl _)
            obtain rfl := Option.some.inj hM
            obtain ⟨fs, hr, hrun, hended, hW, hsame⟩ := X0.leave (v := some (.int (0 : Int32))) (fun h => by rw [Bd.returns] at h; cases h)
            refine ⟨_, _, q39.trans ?_, hrun, hended, _, _, rfl, ?_, ⟨_, rfl⟩, hW, hsame.mono (by decide) (by decide)⟩
            · exact retN X0 hx (t := .boolean) Bd.returns (by simp) (hb hby d2_55) hr
            · show Q_rmH Z o0 p1 p2 p3 xs _ h0 n0 _ s₁.heap _
              rw [e0]
              exact ⟨rfl, N0, rfl⟩
        · rw [if_neg hc21] at hM
          have q40 : Steps p.tables e below (s₁.setTop (entryFrame m #[(.ref o0), (.int p1), (.int p2), (.int p3)] 4)) (s₁.setTop (mkF m 54 #[.val (.ref o0), .val (.int p1), .val (.int p2), .val (.int p3)] [])) := q20.trans (by
              show Steps p.tables e below (s₁.setTop (mkF m 27 #[.val (.ref o0), .val (.int p1), .val (.int p2), .val (.int p3)] [(.int (10 : Int32)), (.int v18)])) _
              refine XS.icmpYes X0.here hx rfl (pc0 := 27) (pc' := 54) rfl (hb hby d2_27) rfl (feq hc21).2 (by decide) (by decide) ?_
              show Steps p.tables e below (s₁.setTop (mkF m 54 #[.val (.ref o0), .val (.int p1), .val (.int p2), .val (.int p3)] [])) _
              exact Steps.refl _)
          have q41 : Steps p.tables e below (s₁.setTop (entryFrame m #[(.ref o0), (.int p1), (.int p2), (.int p3)] 4)) (s₁.setTop (mkF m 55 #[.val (.ref o0), .val (.int p1), .val (.int p2), .val (.int p3)] [(.int (0 : Int32))])) := q40.trans (by
              show Steps p.tables e below (s₁.setTop (mkF m 54 #[.val (.ref o0), .val (.int p1), .val (.int p2), .val (.int p3)] [])) _
              refine XS.iconst X0.here hx rfl (hb hby d2_54) ?_
              show Steps p.tables e below (s₁.setTop (mkF m 55 #[.val (.ref o0), .val (.int p1), .val (.int p2), .val (.int p3)] [(.int (0 : Int32))])) _
              exact Steps.refl _)
          obtain rfl := Option.some.inj hM
          obtain ⟨fs, hr, hrun, hended, hW, hsame⟩ := X0.leave (v := some (.int (0 : Int32))) (fun h => by rw [Bd.returns] at h; cases h)
          refine ⟨_, _, q41.trans ?_, hrun, hended, _, _, rfl, ?_, ⟨_, rfl⟩, hW, hsame.mono (by decide) (by decide)⟩
          · exact retN X0 hx (t := .boolean) Bd.returns (by simp) (hb hby d2_55) hr
          · show Q_rmH Z o0 p1 p2 p3 xs _ h0 n0 _ s₁.heap _
            rw [e0]
            exact ⟨rfl, N0, rfl⟩
      · rw [if_neg hc15] at hM
        have q42 : Steps p.tables e below (s₁.setTop (entryFrame m #[(.ref o0), (.int p1), (.int p2), (.int p3)] 4)) (s₁.setTop (mkF m 54 #[.val (.ref o0), .val (.int p1), .val (.int p2), .val (.int p3)] [])) := q14.trans (by
            show Steps p.tables e below (s₁.setTop (mkF m 17 #[.val (.ref o0), .val (.int p1), .val (.int p2), .val (.int p3)] [(.int (13 : Int32)), (.int v12)])) _
            refine XS.icmpYes X0.here hx rfl (pc0 := 17) (pc' := 54) rfl (hb hby d2_17) rfl (feq hc15).2 (by decide) (by decide) ?_
            show Steps p.tables e below (s₁.setTop (mkF m 54 #[.val (.ref o0), .val (.int p1), .val (.int p2), .val (.int p3)] [])) _
            exact Steps.refl _)
        have q43 : Steps p.tables e below (s₁.setTop (entryFrame m #[(.ref o0), (.int p1), (.int p2), (.int p3)] 4)) (s₁.setTop (mkF m 55 #[.val (.ref o0), .val (.int p1), .val (.int p2), .val (.int p3)] [(.int (0 : Int32))])) := q42.trans (by
            show Steps p.tables e below (s₁.setTop (mkF m 54 #[.val (.ref o0), .val (.int p1), .val (.int p2), .val (.int p3)] [])) _
            refine XS.iconst X0.here hx rfl (hb hby d2_54) ?_
            show Steps p.tables e below (s₁.setTop (mkF m 55 #[.val (.ref o0), .val (.int p1), .val (.int p2), .val (.int p3)] [(.int (0 : Int32))])) _
            exact Steps.refl _)
        obtain rfl := Option.some.inj hM
        obtain ⟨fs, hr, hrun, hended, hW, hsame⟩ := X0.leave (v := some (.int (0 : Int32))) (fun h => by rw [Bd.returns] at h; cases h)
        refine ⟨_, _, q43.trans ?_, hrun, hended, _, _, rfl, ?_, ⟨_, rfl⟩, hW, hsame.mono (by decide) (by decide)⟩
        · exact retN X0 hx (t := .boolean) Bd.returns (by simp) (hb hby d2_55) hr
        · show Q_rmH Z o0 p1 p2 p3 xs _ h0 n0 _ s₁.heap _
          rw [e0]
          exact ⟨rfl, N0, rfl⟩

theorem d3_2 : decode prog_8_method_3_code 2 = .ok (.iload_n 3, 1) := by decide +kernel
theorem d3_3 : decode prog_8_method_3_code 3 = .ok (.getstatic 84, 3) := by decide +kernel
theorem d3_6 : decode prog_8_method_3_code 6 = .ok (.arraylength, 1) := by decide +kernel
theorem d3_7 : decode prog_8_method_3_code 7 = .ok (.iadd, 1) := by decide +kernel
theorem d3_8 : decode prog_8_method_3_code 8 = .ok (.iload_n 2, 1) := by decide +kernel
theorem d3_9 : decode prog_8_method_3_code 9 = .ok (.if_icmp .gt 54, 3) := by decide +kernel
theorem d3_12 : decode prog_8_method_3_code 12 = .ok (.aload_n 0, 1) := by decide +kernel
theorem d3_13 : decode prog_8_method_3_code 13 = .ok (.iload_n 3, 1) := by decide +kernel
theorem d3_14 : decode prog_8_method_3_code 14 = .ok (.baload, 1) := by decide +kernel
theorem d3_15 : decode prog_8_method_3_code 15 = .ok (.bipush 13, 2) := by decide +kernel
theorem d3_17 : decode prog_8_method_3_code 17 = .ok (.if_icmp .ne 40, 3) := by decide +kernel
theorem d3_20 : decode prog_8_method_3_code 20 = .ok (.aload_n 0, 1) := by decide +kernel
theorem d3_21 : decode prog_8_method_3_code 21 = .ok (.iload_n 3, 1) := by decide +kernel
theorem d3_22 : decode prog_8_method_3_code 22 = .ok (.iconst 1, 1) := by decide +kernel
theorem d3_23 : decode prog_8_method_3_code 23 = .ok (.iadd, 1) := by decide +kernel
theorem d3_24 : decode prog_8_method_3_code 24 = .ok (.baload, 1) := by decide +kernel
theorem d3_25 : decode prog_8_method_3_code 25 = .ok (.bipush 10, 2) := by decide +kernel
theorem d3_27 : decode prog_8_method_3_code 27 = .ok (.if_icmp .ne 30, 3) := by decide +kernel
theorem d3_30 : decode prog_8_method_3_code 30 = .ok (.aload_n 0, 1) := by decide +kernel
theorem d3_31 : decode prog_8_method_3_code 31 = .ok (.iload_n 3, 1) := by decide +kernel
theorem d3_32 : decode prog_8_method_3_code 32 = .ok (.iconst 2, 1) := by decide +kernel
theorem d3_33 : decode prog_8_method_3_code 33 = .ok (.iadd, 1) := by decide +kernel
theorem d3_34 : decode prog_8_method_3_code 34 = .ok (.baload, 1) := by decide +kernel
theorem d3_35 : decode prog_8_method_3_code 35 = .ok (.bipush 13, 2) := by decide +kernel
theorem d3_37 : decode prog_8_method_3_code 37 = .ok (.if_icmp .ne 20, 3) := by decide +kernel
theorem d3_40 : decode prog_8_method_3_code 40 = .ok (.aload_n 0, 1) := by decide +kernel
theorem d3_41 : decode prog_8_method_3_code 41 = .ok (.iload_n 3, 1) := by decide +kernel
theorem d3_42 : decode prog_8_method_3_code 42 = .ok (.iconst 3, 1) := by decide +kernel
theorem d3_43 : decode prog_8_method_3_code 43 = .ok (.iadd, 1) := by decide +kernel
theorem d3_44 : decode prog_8_method_3_code 44 = .ok (.baload, 1) := by decide +kernel
theorem d3_45 : decode prog_8_method_3_code 45 = .ok (.bipush 10, 2) := by decide +kernel
theorem d3_47 : decode prog_8_method_3_code 47 = .ok (.if_icmp .ne 10, 3) := by decide +kernel
theorem d3_50 : decode prog_8_method_3_code 50 = .ok (.iload_n 3, 1) := by decide +kernel
theorem d3_51 : decode prog_8_method_3_code 51 = .ok (.getstatic 84, 3) := by decide +kernel
theorem d3_54 : decode prog_8_method_3_code 54 = .ok (.arraylength, 1) := by decide +kernel
theorem d3_55 : decode prog_8_method_3_code 55 = .ok (.iadd, 1) := by decide +kernel
theorem d3_56 : decode prog_8_method_3_code 56 = .ok (.ireturn, 1) := by decide +kernel
theorem d3_57 : decode prog_8_method_3_code 57 = .ok (.iinc 3 1, 3) := by decide +kernel
theorem d3_60 : decode prog_8_method_3_code 60 = .ok (.goto (-58), 3) := by decide +kernel
theorem d3_63 : decode prog_8_method_3_code 63 = .ok (.iconst (-1), 1) := by decide +kernel
theorem d3_64 : decode prog_8_method_3_code 64 = .ok (.ireturn, 1) := by decide +kernel
def M_lpE : Nat → Int32 → List Int32 → Int32 → Option (Int32)
  | 0, _, _, _ => none
  | k + 1, p2, xs, i => (if p2 < (i + (4 : Int32)) then some (-1 : Int32) else (Own.rd xs i).bind fun v10 => (if v10 = (13 : Int32) then (Own.rd xs (i + (1 : Int32))).bind fun v16 => (if v16 = (10 : Int32) then (Own.rd xs (i + (2 : Int32))).bind fun v22 => (if v22 = (13 : Int32) then (Own.rd xs (i + (3 : Int32))).bind fun v28 => (if v28 = (10 : Int32) then some (i + (4 : Int32)) else M_lpE k p2 xs (i + (1 : Int32))) else M_lpE k p2 xs (i + (1 : Int32))) else M_lpE k p2 xs (i + (1 : Int32))) else M_lpE k p2 xs (i + (1 : Int32))))
theorem M_lpE_s (k : Nat) (p2 : Int32) (xs : List Int32) (i : Int32) : M_lpE (k + 1) p2 xs i = (if p2 < (i + (4 : Int32)) then some (-1 : Int32) else (Own.rd xs i).bind fun v10 => (if v10 = (13 : Int32) then (Own.rd xs (i + (1 : Int32))).bind fun v16 => (if v16 = (10 : Int32) then (Own.rd xs (i + (2 : Int32))).bind fun v22 => (if v22 = (13 : Int32) then (Own.rd xs (i + (3 : Int32))).bind fun v28 => (if v28 = (10 : Int32) then some (i + (4 : Int32)) else M_lpE k p2 xs (i + (1 : Int32))) else M_lpE k p2 xs (i + (1 : Int32))) else M_lpE k p2 xs (i + (1 : Int32))) else M_lpE k p2 xs (i + (1 : Int32)))) := rfl
set_option maxRecDepth 65536 in
set_option maxHeartbeats 40000000 in
theorem lpE {p : Program} {l : Launch} {e : Env} {R : Room} {s : State} {m : MethodId} {args : Array Value} {below : List Frame} {meth : Method} {c : Code} {Z : State} {a0 : Array Value} {cells slots : Nat} (hx : p.tables.exec = Jvm.exec) (hZ : Z.Warmed39 s.vm) (hw : ∀ d ∈ tables_1, d.before a0 Z = true) {locs : List Loc} {h0 : Heap} (hby : c.code = prog_8_method_3_code) (hml : c.maxLocals = 4) (hown : s.vm.findClass "com/example/lettr/lettr/bench/Opening" = some m.cls) (o0 w_HEAD_END : Addr) (p1 : Int32) (vsH : List Value) (p2 : Int32) (xs : List Int32) (lz : vsH.length.toInt32 = (4 : Int32)) (S_HEAD_END : Sta Z h0 "com/example/lettr/lettr/bench/Opening" "HEAD_END" "[B" (.ref w_HEAD_END)) (A_H : Own.AV Z h0 w_HEAD_END .byte vsH) (I_o0 : Own.BA Z h0 o0 xs) (k : Nat) : ∀ {T0 : State} (i : Int32) (out : Int32) (hM : M_lpE k p2 xs i = some out) (X0 : Stand p l e R s m args below meth c T0 locs cells slots) (e0 : T0.heap = h0),
    ∃ (T' : State) (pc' : Nat) (L' : Array Slot), Stand p l e R s m args below meth c T' locs cells slots ∧ T'.heap = h0 ∧ decode c.code pc' = .ok (.ireturn, 1) ∧ Steps p.tables e below (T0.setTop (mkF m 2 #[.val (.ref o0), .val (.int p1), .val (.int p2), .val (.int i)] [])) (T'.setTop (mkF m pc' L' [.int out])) := by
  induction k with
  | zero => intro T0 i out hM X0 e0; cases hM
  | succ k ih =>
    intro T0 i out hM X0 e0
    rw [M_lpE_s] at hM
    have q0 : Steps p.tables e below (T0.setTop (mkF m 2 #[.val (.ref o0), .val (.int p1), .val (.int p2), .val (.int i)] [])) (T0.setTop (mkF m 2 #[.val (.ref o0), .val (.int p1), .val (.int p2), .val (.int i)] [])) := Steps.refl _
    have q1 : Steps p.tables e below (T0.setTop (mkF m 2 #[.val (.ref o0), .val (.int p1), .val (.int p2), .val (.int i)] [])) (T0.setTop (mkF m 3 #[.val (.ref o0), .val (.int p1), .val (.int p2), .val (.int i)] [(.int i)])) := q0.trans (by
        show Steps p.tables e below (T0.setTop (mkF m 2 #[.val (.ref o0), .val (.int p1), .val (.int p2), .val (.int i)] [])) _
        refine XS.iloadN X0.here hx rfl (hb hby d3_2) rfl ?_
        show Steps p.tables e below (T0.setTop (mkF m 3 #[.val (.ref o0), .val (.int p1), .val (.int p2), .val (.int i)] [(.int i)])) _
        exact Steps.refl _)
    obtain ⟨T2, X2, e2, st2⟩ := getS2 X0 hx hZ hown (host := "") (Or.inl (hw _ (List.mem_of_getElem? (i := 13) rfl))) Via.refl e0 S_HEAD_END (g := (mkF m 3 #[.val (.ref o0), .val (.int p1), .val (.int p2), .val (.int i)] [(.int i)])) rfl (hb hby d3_3)
    have q3 : Steps p.tables e below (T0.setTop (mkF m 2 #[.val (.ref o0), .val (.int p1), .val (.int p2), .val (.int i)] [])) (T2.setTop (mkF m 6 #[.val (.ref o0), .val (.int p1), .val (.int p2), .val (.int i)] [(.ref w_HEAD_END), (.int i)])) := q1.trans (st2 _ (Steps.refl _))
    have q4 : Steps p.tables e below (T0.setTop (mkF m 2 #[.val (.ref o0), .val (.int p1), .val (.int p2), .val (.int i)] [])) (T2.setTop (mkF m 9 #[.val (.ref o0), .val (.int p1), .val (.int p2), .val (.int i)] [(.int p2), (.int (i + (4 : Int32)))])) := q3.trans (by
        show Steps p.tables e below (T2.setTop (mkF m 6 #[.val (.ref o0), .val (.int p1), .val (.int p2), .val (.int i)] [(.ref w_HEAD_END), (.int i)])) _
        refine Own.lnV X2 hx hZ e2 A_H (z := (4 : Int32)) lz (g := (mkF m 6 #[.val (.ref o0), .val (.int p1), .val (.int p2), .val (.int i)] [(.ref w_HEAD_END), (.int i)])) rfl rfl (hb hby d3_6) _ ?_
        show Steps p.tables e below (T2.setTop (mkF m 7 #[.val (.ref o0), .val (.int p1), .val (.int p2), .val (.int i)] [(.int (4 : Int32)), (.int i)])) _
        refine XS.iadd X2.here hx rfl (hb hby d3_7) rfl ?_
        show Steps p.tables e below (T2.setTop (mkF m 8 #[.val (.ref o0), .val (.int p1), .val (.int p2), .val (.int i)] [(.int (i + (4 : Int32)))])) _
        refine XS.iloadN X2.here hx rfl (hb hby d3_8) rfl ?_
        show Steps p.tables e below (T2.setTop (mkF m 9 #[.val (.ref o0), .val (.int p1), .val (.int p2), .val (.int i)] [(.int p2), (.int (i + (4 : Int32)))])) _
        exact Steps.refl _)
    by_cases hc5 : p2 < (i + (4 : Int32))
    · rw [if_pos hc5] at hM
      have q6 : Steps p.tables e below (T0.setTop (mkF m 2 #[.val (.ref o0), .val (.int p1), .val (.int p2), .val (.int i)] [])) (T2.setTop (mkF m 63 #[.val (.ref o0), .val (.int p1), .val (.int p2), .val (.int i)] [])) := q4.trans (by
          show Steps p.tables e below (T2.setTop (mkF m 9 #[.val (.ref o0), .val (.int p1), .val (.int p2), .val (.int i)] [(.int p2), (.int (i + (4 : Int32)))])) _
          refine XS.icmpYes X2.here hx rfl (pc0 := 9) (pc' := 63) rfl (hb hby d3_9) rfl (tlt hc5).2.2.1 (by decide) (by decide) ?_
          show Steps p.tables e below (T2.setTop (mkF m 63 #[.val (.ref o0), .val (.int p1), .val (.int p2), .val (.int i)] [])) _
          exact Steps.refl _)
      have q7 : Steps p.tables e below (T0.setTop (mkF m 2 #[.val (.ref o0), .val (.int p1), .val (.int p2), .val (.int i)] [])) (T2.setTop (mkF m 64 #[.val (.ref o0), .val (.int p1), .val (.int p2), .val (.int i)] [(.int (-1 : Int32))])) := q6.trans (by
          show Steps p.tables e below (T2.setTop (mkF m 63 #[.val (.ref o0), .val (.int p1), .val (.int p2), .val (.int i)] [])) _
          refine XS.iconst X2.here hx rfl (hb hby d3_63) ?_
          show Steps p.tables e below (T2.setTop (mkF m 64 #[.val (.ref o0), .val (.int p1), .val (.int p2), .val (.int i)] [(.int (-1 : Int32))])) _
          exact Steps.refl _)
      obtain rfl := Option.some.inj hM
      exact ⟨_, _, _, X2, e2, (hb hby d3_64), q7⟩
    · rw [if_neg hc5] at hM
      have q8 : Steps p.tables e below (T0.setTop (mkF m 2 #[.val (.ref o0), .val (.int p1), .val (.int p2), .val (.int i)] [])) (T2.setTop (mkF m 12 #[.val (.ref o0), .val (.int p1), .val (.int p2), .val (.int i)] [])) := q4.trans (by
          show Steps p.tables e below (T2.setTop (mkF m 9 #[.val (.ref o0), .val (.int p1), .val (.int p2), .val (.int i)] [(.int p2), (.int (i + (4 : Int32)))])) _
          refine XS.icmpNo X2.here hx rfl (hb hby d3_9) rfl (flt hc5).2.2.1 ?_
          show Steps p.tables e below (T2.setTop (mkF m 12 #[.val (.ref o0), .val (.int p1), .val (.int p2), .val (.int i)] [])) _
          exact Steps.refl _)
      have q9 : Steps p.tables e below (T0.setTop (mkF m 2 #[.val (.ref o0), .val (.int p1), .val (.int p2), .val (.int i)] [])) (T2.setTop (mkF m 14 #[.val (.ref o0), .val (.int p1), .val (.int p2), .val (.int i)] [(.int i), (.ref o0)])) := q8.trans (by
          show Steps p.tables e below (T2.setTop (mkF m 12 #[.val (.ref o0), .val (.int p1), .val (.int p2), .val (.int i)] [])) _
          refine XS.aloadN X2.here hx rfl (hb hby d3_12) rfl rfl ?_
          show Steps p.tables e below (T2.setTop (mkF m 13 #[.val (.ref o0), .val (.int p1), .val (.int p2), .val (.int i)] [(.ref o0)])) _
          refine XS.iloadN X2.here hx rfl (hb hby d3_13) rfl ?_
          show Steps p.tables e below (T2.setTop (mkF m 14 #[.val (.ref o0), .val (.int p1), .val (.int p2), .val (.int i)] [(.int i), (.ref o0)])) _
          exact Steps.refl _)
      obtain ⟨v10, hv10, hM⟩ := Option.bind_eq_some_iff.mp hM
      have q11 : Steps p.tables e below (T0.setTop (mkF m 2 #[.val (.ref o0), .val (.int p1), .val (.int p2), .val (.int i)] [])) (T2.setTop (mkF m 15 #[.val (.ref o0), .val (.int p1), .val (.int p2), .val (.int i)] [(.int v10)])) := q9.trans (Own.ldBO X2 hx hZ e2 I_o0 hv10 (g := (mkF m 14 #[.val (.ref o0), .val (.int p1), .val (.int p2), .val (.int i)] [(.int i), (.ref o0)])) rfl rfl (hb hby d3_14) _ (Steps.refl _))
      have q12 : Steps p.tables e below (T0.setTop (mkF m 2 #[.val (.ref o0), .val (.int p1), .val (.int p2), .val (.int i)] [])) (T2.setTop (mkF m 17 #[.val (.ref o0), .val (.int p1), .val (.int p2), .val (.int i)] [(.int (13 : Int32)), (.int v10)])) := q11.trans (by
          show Steps p.tables e below (T2.setTop (mkF m 15 #[.val (.ref o0), .val (.int p1), .val (.int p2), .val (.int i)] [(.int v10)])) _
          refine XS.bipush X2.here hx rfl (hb hby d3_15) ?_
          show Steps p.tables e below (T2.setTop (mkF m 17 #[.val (.ref o0), .val (.int p1), .val (.int p2), .val (.int i)] [(.int (13 : Int32)), (.int v10)])) _
          exact Steps.refl _)
      by_cases hc13 : v10 = (13 : Int32)
      · rw [if_pos hc13] at hM
        have q14 : Steps p.tables e below (T0.setTop (mkF m 2 #[.val (.ref o0), .val (.int p1), .val (.int p2), .val (.int i)] [])) (T2.setTop (mkF m 20 #[.val (.ref o0), .val (.int p1), .val (.int p2), .val (.int i)] [])) := q12.trans (by
            show Steps p.tables e below (T2.setTop (mkF m 17 #[.val (.ref o0), .val (.int p1), .val (.int p2), .val (.int i)] [(.int (13 : Int32)), (.int v10)])) _
            refine XS.icmpNo X2.here hx rfl (hb hby d3_17) rfl (teq hc13).2 ?_
            show Steps p.tables e below (T2.setTop (mkF m 20 #[.val (.ref o0), .val (.int p1), .val (.int p2), .val (.int i)] [])) _
            exact Steps.refl _)
        have q15 : Steps p.tables e below (T0.setTop (mkF m 2 #[.val (.ref o0), .val (.int p1), .val (.int p2), .val (.int i)] [])) (T2.setTop (mkF m 24 #[.val (.ref o0), .val (.int p1), .val (.int p2), .val (.int i)] [(.int (i + (1 : Int32))), (.ref o0)])) := q14.trans (by
            show Steps p.tables e below (T2.setTop (mkF m 20 #[.val (.ref o0), .val (.int p1), .val (.int p2), .val (.int i)] [])) _
            refine XS.aloadN X2.here hx rfl (hb hby d3_20) rfl rfl ?_
            show Steps p.tables e below (T2.setTop (mkF m 21 #[.val (.ref o0), .val (.int p1), .val (.int p2), .val (.int i)] [(.ref o0)])) _
            refine XS.iloadN X2.here hx rfl (hb hby d3_21) rfl ?_
            show Steps p.tables e below (T2.setTop (mkF m 22 #[.val (.ref o0), .val (.int p1), .val (.int p2), .val (.int i)] [(.int i), (.ref o0)])) _
            refine XS.iconst X2.here hx rfl (hb hby d3_22) ?_
            show Steps p.tables e below (T2.setTop (mkF m 23 #[.val (.ref o0), .val (.int p1), .val (.int p2), .val (.int i)] [(.int (1 : Int32)), (.int i), (.ref o0)])) _
            refine XS.iadd X2.here hx rfl (hb hby d3_23) rfl ?_
            show Steps p.tables e below (T2.setTop (mkF m 24 #[.val (.ref o0), .val (.int p1), .val (.int p2), .val (.int i)] [(.int (i + (1 : Int32))), (.ref o0)])) _
            exact Steps.refl _)
        obtain ⟨v16, hv16, hM⟩ := Option.bind_eq_some_iff.mp hM
        have q17 : Steps p.tables e below (T0.setTop (mkF m 2 #[.val (.ref o0), .val (.int p1), .val (.int p2), .val (.int i)] [])) (T2.setTop (mkF m 25 #[.val (.ref o0), .val (.int p1), .val (.int p2), .val (.int i)] [(.int v16)])) := q15.trans (Own.ldBO X2 hx hZ e2 I_o0 hv16 (g := (mkF m 24 #[.val (.ref o0), .val (.int p1), .val (.int p2), .val (.int i)] [(.int (i + (1 : Int32))), (.ref o0)])) rfl rfl (hb hby d3_24) _ (Steps.refl _))
        have q18 : Steps p.tables e below (T0.setTop (mkF m 2 #[.val (.ref o0), .val (.int p1), .val (.int p2), .val (.int i)] [])) (T2.setTop (mkF m 27 #[.val (.ref o0), .val (.int p1), .val (.int p2), .val (.int i)] [(.int (10 : Int32)), (.int v16)])) := q17.trans (by
            show Steps p.tables e below (T2.setTop (mkF m 25 #[.val (.ref o0), .val (.int p1), .val (.int p2), .val (.int i)] [(.int v16)])) _
            refine XS.bipush X2.here hx rfl (hb hby d3_25) ?_
            show Steps p.tables e below (T2.setTop (mkF m 27 #[.val (.ref o0), .val (.int p1), .val (.int p2), .val (.int i)] [(.int (10 : Int32)), (.int v16)])) _
            exact Steps.refl _)
        by_cases hc19 : v16 = (10 : Int32)
        · rw [if_pos hc19] at hM
          have q20 : Steps p.tables e below (T0.setTop (mkF m 2 #[.val (.ref o0), .val (.int p1), .val (.int p2), .val (.int i)] [])) (T2.setTop (mkF m 30 #[.val (.ref o0), .val (.int p1), .val (.int p2), .val (.int i)] [])) := q18.trans (by
              show Steps p.tables e below (T2.setTop (mkF m 27 #[.val (.ref o0), .val (.int p1), .val (.int p2), .val (.int i)] [(.int (10 : Int32)), (.int v16)])) _
              refine XS.icmpNo X2.here hx rfl (hb hby d3_27) rfl (teq hc19).2 ?_
              show Steps p.tables e below (T2.setTop (mkF m 30 #[.val (.ref o0), .val (.int p1), .val (.int p2), .val (.int i)] [])) _
              exact Steps.refl _)
          have q21 : Steps p.tables e below (T0.setTop (mkF m 2 #[.val (.ref o0), .val (.int p1), .val (.int p2), .val (.int i)] [])) (T2.setTop (mkF m 34 #[.val (.ref o0), .val (.int p1), .val (.int p2), .val (.int i)] [(.int (i + (2 : Int32))), (.ref o0)])) := q20.trans (by
              show Steps p.tables e below (T2.setTop (mkF m 30 #[.val (.ref o0), .val (.int p1), .val (.int p2), .val (.int i)] [])) _
              refine XS.aloadN X2.here hx rfl (hb hby d3_30) rfl rfl ?_
              show Steps p.tables e below (T2.setTop (mkF m 31 #[.val (.ref o0), .val (.int p1), .val (.int p2), .val (.int i)] [(.ref o0)])) _
              refine XS.iloadN X2.here hx rfl (hb hby d3_31) rfl ?_
              show Steps p.tables e below (T2.setTop (mkF m 32 #[.val (.ref o0), .val (.int p1), .val (.int p2), .val (.int i)] [(.int i), (.ref o0)])) _
              refine XS.iconst X2.here hx rfl (hb hby d3_32) ?_
              show Steps p.tables e below (T2.setTop (mkF m 33 #[.val (.ref o0), .val (.int p1), .val (.int p2), .val (.int i)] [(.int (2 : Int32)), (.int i), (.ref o0)])) _
              refine XS.iadd X2.here hx rfl (hb hby d3_33) rfl ?_
              show Steps p.tables e below (T2.setTop (mkF m 34 #[.val (.ref o0), .val (.int p1), .val (.int p2), .val (.int i)] [(.int (i + (2 : Int32))), (.ref o0)])) _
              exact Steps.refl _)
          obtain ⟨v22, hv22, hM⟩ := Option.bind_eq_some_iff.mp hM
          have q23 : Steps p.tables e below (T0.setTop (mkF m 2 #[.val (.ref o0), .val (.int p1), .val (.int p2), .val (.int i)] [])) (T2.setTop (mkF m 35 #[.val (.ref o0), .val (.int p1), .val (.int p2), .val (.int i)] [(.int v22)])) := q21.trans (Own.ldBO X2 hx hZ e2 I_o0 hv22 (g := (mkF m 34 #[.val (.ref o0), .val (.int p1), .val (.int p2), .val (.int i)] [(.int (i + (2 : Int32))), (.ref o0)])) rfl rfl (hb hby d3_34) _ (Steps.refl _))
          have q24 : Steps p.tables e below (T0.setTop (mkF m 2 #[.val (.ref o0), .val (.int p1), .val (.int p2), .val (.int i)] [])) (T2.setTop (mkF m 37 #[.val (.ref o0), .val (.int p1), .val (.int p2), .val (.int i)] [(.int (13 : Int32)), (.int v22)])) := q23.trans (by
              show Steps p.tables e below (T2.setTop (mkF m 35 #[.val (.ref o0), .val (.int p1), .val (.int p2), .val (.int i)] [(.int v22)])) _
              refine XS.bipush X2.here hx rfl (hb hby d3_35) ?_
              show Steps p.tables e below (T2.setTop (mkF m 37 #[.val (.ref o0), .val (.int p1), .val (.int p2), .val (.int i)] [(.int (13 : Int32)), (.int v22)])) _
              exact Steps.refl _)
          by_cases hc25 : v22 = (13 : Int32)
          · rw [if_pos hc25] at hM
            have q26 : Steps p.tables e below (T0.setTop (mkF m 2 #[.val (.ref o0), .val (.int p1), .val (.int p2), .val (.int i)] [])) (T2.setTop (mkF m 40 #[.val (.ref o0), .val (.int p1), .val (.int p2), .val (.int i)] [])) := q24.trans (by
                show Steps p.tables e below (T2.setTop (mkF m 37 #[.val (.ref o0), .val (.int p1), .val (.int p2), .val (.int i)] [(.int (13 : Int32)), (.int v22)])) _
                refine XS.icmpNo X2.here hx rfl (hb hby d3_37) rfl (teq hc25).2 ?_
                show Steps p.tables e below (T2.setTop (mkF m 40 #[.val (.ref o0), .val (.int p1), .val (.int p2), .val (.int i)] [])) _
                exact Steps.refl _)
            have q27 : Steps p.tables e below (T0.setTop (mkF m 2 #[.val (.ref o0), .val (.int p1), .val (.int p2), .val (.int i)] [])) (T2.setTop (mkF m 44 #[.val (.ref o0), .val (.int p1), .val (.int p2), .val (.int i)] [(.int (i + (3 : Int32))), (.ref o0)])) := q26.trans (by
                show Steps p.tables e below (T2.setTop (mkF m 40 #[.val (.ref o0), .val (.int p1), .val (.int p2), .val (.int i)] [])) _
                refine XS.aloadN X2.here hx rfl (hb hby d3_40) rfl rfl ?_
                show Steps p.tables e below (T2.setTop (mkF m 41 #[.val (.ref o0), .val (.int p1), .val (.int p2), .val (.int i)] [(.ref o0)])) _
                refine XS.iloadN X2.here hx rfl (hb hby d3_41) rfl ?_
                show Steps p.tables e below (T2.setTop (mkF m 42 #[.val (.ref o0), .val (.int p1), .val (.int p2), .val (.int i)] [(.int i), (.ref o0)])) _
                refine XS.iconst X2.here hx rfl (hb hby d3_42) ?_
                show Steps p.tables e below (T2.setTop (mkF m 43 #[.val (.ref o0), .val (.int p1), .val (.int p2), .val (.int i)] [(.int (3 : Int32)), (.int i), (.ref o0)])) _
                refine XS.iadd X2.here hx rfl (hb hby d3_43) rfl ?_
                show Steps p.tables e below (T2.setTop (mkF m 44 #[.val (.ref o0), .val (.int p1), .val (.int p2), .val (.int i)] [(.int (i + (3 : Int32))), (.ref o0)])) _
                exact Steps.refl _)
            obtain ⟨v28, hv28, hM⟩ := Option.bind_eq_some_iff.mp hM
            have q29 : Steps p.tables e below (T0.setTop (mkF m 2 #[.val (.ref o0), .val (.int p1), .val (.int p2), .val (.int i)] [])) (T2.setTop (mkF m 45 #[.val (.ref o0), .val (.int p1), .val (.int p2), .val (.int i)] [(.int v28)])) := q27.trans (Own.ldBO X2 hx hZ e2 I_o0 hv28 (g := (mkF m 44 #[.val (.ref o0), .val (.int p1), .val (.int p2), .val (.int i)] [(.int (i + (3 : Int32))), (.ref o0)])) rfl rfl (hb hby d3_44) _ (Steps.refl _))
            have q30 : Steps p.tables e below (T0.setTop (mkF m 2 #[.val (.ref o0), .val (.int p1), .val (.int p2), .val (.int i)] [])) (T2.setTop (mkF m 47 #[.val (.ref o0), .val (.int p1), .val (.int p2), .val (.int i)] [(.int (10 : Int32)), (.int v28)])) := q29.trans (by
                show Steps p.tables e below (T2.setTop (mkF m 45 #[.val (.ref o0), .val (.int p1), .val (.int p2), .val (.int i)] [(.int v28)])) _
                refine XS.bipush X2.here hx rfl (hb hby d3_45) ?_
                show Steps p.tables e below (T2.setTop (mkF m 47 #[.val (.ref o0), .val (.int p1), .val (.int p2), .val (.int i)] [(.int (10 : Int32)), (.int v28)])) _
                exact Steps.refl _)
            by_cases hc31 : v28 = (10 : Int32)
            · rw [if_pos hc31] at hM
              have q32 : Steps p.tables e below (T0.setTop (mkF m 2 #[.val (.ref o0), .val (.int p1), .val (.int p2), .val (.int i)] [])) (T2.setTop (mkF m 50 #[.val (.ref o0), .val (.int p1), .val (.int p2), .val (.int i)] [])) := q30.trans (by
                  show Steps p.tables e below (T2.setTop (mkF m 47 #[.val (.ref o0), .val (.int p1), .val (.int p2), .val (.int i)] [(.int (10 : Int32)), (.int v28)])) _
                  refine XS.icmpNo X2.here hx rfl (hb hby d3_47) rfl (teq hc31).2 ?_
                  show Steps p.tables e below (T2.setTop (mkF m 50 #[.val (.ref o0), .val (.int p1), .val (.int p2), .val (.int i)] [])) _
                  exact Steps.refl _)
              have q33 : Steps p.tables e below (T0.setTop (mkF m 2 #[.val (.ref o0), .val (.int p1), .val (.int p2), .val (.int i)] [])) (T2.setTop (mkF m 51 #[.val (.ref o0), .val (.int p1), .val (.int p2), .val (.int i)] [(.int i)])) := q32.trans (by
                  show Steps p.tables e below (T2.setTop (mkF m 50 #[.val (.ref o0), .val (.int p1), .val (.int p2), .val (.int i)] [])) _
                  refine XS.iloadN X2.here hx rfl (hb hby d3_50) rfl ?_
                  show Steps p.tables e below (T2.setTop (mkF m 51 #[.val (.ref o0), .val (.int p1), .val (.int p2), .val (.int i)] [(.int i)])) _
                  exact Steps.refl _)
              obtain ⟨T34, X34, e34, st34⟩ := getS2 X2 hx hZ hown (host := "") (Or.inl (hw _ (List.mem_of_getElem? (i := 13) rfl))) Via.refl e2 S_HEAD_END (g := (mkF m 51 #[.val (.ref o0), .val (.int p1), .val (.int p2), .val (.int i)] [(.int i)])) rfl (hb hby d3_51)
              have q35 : Steps p.tables e below (T0.setTop (mkF m 2 #[.val (.ref o0), .val (.int p1), .val (.int p2), .val (.int i)] [])) (T34.setTop (mkF m 54 #[.val (.ref o0), .val (.int p1), .val (.int p2), .val (.int i)] [(.ref w_HEAD_END), (.int i)])) := q33.trans (st34 _ (Steps.refl _))
              have q36 : Steps p.tables e below (T0.setTop (mkF m 2 #[.val (.ref o0), .val (.int p1), .val (.int p2), .val (.int i)] [])) (T34.setTop (mkF m 56 #[.val (.ref o0), .val (.int p1), .val (.int p2), .val (.int i)] [(.int (i + (4 : Int32)))])) := q35.trans (by
                  show Steps p.tables e below (T34.setTop (mkF m 54 #[.val (.ref o0), .val (.int p1), .val (.int p2), .val (.int i)] [(.ref w_HEAD_END), (.int i)])) _
                  refine Own.lnV X34 hx hZ e34 A_H (z := (4 : Int32)) lz (g := (mkF m 54 #[.val (.ref o0), .val (.int p1), .val (.int p2), .val (.int i)] [(.ref w_HEAD_END), (.int i)])) rfl rfl (hb hby d3_54) _ ?_
                  show Steps p.tables e below (T34.setTop (mkF m 55 #[.val (.ref o0), .val (.int p1), .val (.int p2), .val (.int i)] [(.int (4 : Int32)), (.int i)])) _
                  refine XS.iadd X34.here hx rfl (hb hby d3_55) rfl ?_
                  show Steps p.tables e below (T34.setTop (mkF m 56 #[.val (.ref o0), .val (.int p1), .val (.int p2), .val (.int i)] [(.int (i + (4 : Int32)))])) _
                  exact Steps.refl _)
              obtain rfl := Option.some.inj hM
              exact ⟨_, _, _, X34, e34, (hb hby d3_56), q36⟩
            · rw [if_neg hc31] at hM
              have q37 : Steps p.tables e below (T0.setTop (mkF m 2 #[.val (.ref o0), .val (.int p1), .val (.int p2), .val (.int i)] [])) (T2.setTop (mkF m 57 #[.val (.ref o0), .val (.int p1), .val (.int p2), .val (.int i)] [])) := q30.trans (by
                  show Steps p.tables e below (T2.setTop (mkF m 47 #[.val (.ref o0), .val (.int p1), .val (.int p2), .val (.int i)] [(.int (10 : Int32)), (.int v28)])) _
                  refine XS.icmpYes X2.here hx rfl (pc0 := 47) (pc' := 57) rfl (hb hby d3_47) rfl (feq hc31).2 (by decide) (by decide) ?_
                  show Steps p.tables e below (T2.setTop (mkF m 57 #[.val (.ref o0), .val (.int p1), .val (.int p2), .val (.int i)] [])) _
                  exact Steps.refl _)
              have q38 : Steps p.tables e below (T0.setTop (mkF m 2 #[.val (.ref o0), .val (.int p1), .val (.int p2), .val (.int i)] [])) (T2.setTop (mkF m 2 #[.val (.ref o0), .val (.int p1), .val (.int p2), .val (.int (i + (1 : Int32)))] [])) := q37.trans (by
                  show Steps p.tables e below (T2.setTop (mkF m 57 #[.val (.ref o0), .val (.int p1), .val (.int p2), .val (.int i)] [])) _
                  refine XS.iinc X2.here hx rfl (hb hby d3_57) rfl (l' := #[.val (.ref o0), .val (.int p1), .val (.int p2), .val (.int (i + (1 : Int32)))]) rfl ?_
                  show Steps p.tables e below (T2.setTop (mkF m 60 #[.val (.ref o0), .val (.int p1), .val (.int p2), .val (.int (i + (1 : Int32)))] [])) _
                  refine XS.goto X2.here hx rfl (pc0 := 60) (pc' := 2) rfl (hb hby d3_60) (by decide) (by decide) ?_
                  show Steps p.tables e below (T2.setTop (mkF m 2 #[.val (.ref o0), .val (.int p1), .val (.int p2), .val (.int (i + (1 : Int32)))] [])) _
                  exact Steps.refl _)
              obtain ⟨T', pc', L', X', e', d', q'⟩ := ih (i + (1 : Int32)) _ hM X2 e2
              exact ⟨T', pc', L', X', e', d', q38.trans q'⟩
          · rw [if_neg hc25] at hM
            have q39 : Steps p.tables e below (T0.setTop (mkF m 2 #[.val (.ref o0), .val (.int p1), .val (.int p2), .val (.int i)] [])) (T2.setTop (mkF m 57 #[.val (.ref o0), .val (.int p1), .val (.int p2), .val (.int i)] [])) := q24.trans (by
                show Steps p.tables e below (T2.setTop (mkF m 37 #[.val (.ref o0), .val (.int p1), .val (.int p2), .val (.int i)] [(.int (13 : Int32)), (.int v22)])) _
                refine XS.icmpYes X2.here hx rfl (pc0 := 37) (pc' := 57) rfl (hb hby d3_37) rfl (feq hc25).2 (by decide) (by decide) ?_
                show Steps p.tables e below (T2.setTop (mkF m 57 #[.val (.ref o0), .val (.int p1), .val (.int p2), .val (.int i)] [])) _
                exact Steps.refl _)
            have q40 : Steps p.tables e below (T0.setTop (mkF m 2 #[.val (.ref o0), .val (.int p1), .val (.int p2), .val (.int i)] [])) (T2.setTop (mkF m 2 #[.val (.ref o0), .val (.int p1), .val (.int p2), .val (.int (i + (1 : Int32)))] [])) := q39.trans (by
                show Steps p.tables e below (T2.setTop (mkF m 57 #[.val (.ref o0), .val (.int p1), .val (.int p2), .val (.int i)] [])) _
                refine XS.iinc X2.here hx rfl (hb hby d3_57) rfl (l' := #[.val (.ref o0), .val (.int p1), .val (.int p2), .val (.int (i + (1 : Int32)))]) rfl ?_
                show Steps p.tables e below (T2.setTop (mkF m 60 #[.val (.ref o0), .val (.int p1), .val (.int p2), .val (.int (i + (1 : Int32)))] [])) _
                refine XS.goto X2.here hx rfl (pc0 := 60) (pc' := 2) rfl (hb hby d3_60) (by decide) (by decide) ?_
                show Steps p.tables e below (T2.setTop (mkF m 2 #[.val (.ref o0), .val (.int p1), .val (.int p2), .val (.int (i + (1 : Int32)))] [])) _
                exact Steps.refl _)
            obtain ⟨T', pc', L', X', e', d', q'⟩ := ih (i + (1 : Int32)) _ hM X2 e2
            exact ⟨T', pc', L', X', e', d', q40.trans q'⟩
        · rw [if_neg hc19] at hM
          have q41 : Steps p.tables e below (T0.setTop (mkF m 2 #[.val (.ref o0), .val (.int p1), .val (.int p2), .val (.int i)] [])) (T2.setTop (mkF m 57 #[.val (.ref o0), .val (.int p1), .val (.int p2), .val (.int i)] [])) := q18.trans (by
              show Steps p.tables e below (T2.setTop (mkF m 27 #[.val (.ref o0), .val (.int p1), .val (.int p2), .val (.int i)] [(.int (10 : Int32)), (.int v16)])) _
              refine XS.icmpYes X2.here hx rfl (pc0 := 27) (pc' := 57) rfl (hb hby d3_27) rfl (feq hc19).2 (by decide) (by decide) ?_
              show Steps p.tables e below (T2.setTop (mkF m 57 #[.val (.ref o0), .val (.int p1), .val (.int p2), .val (.int i)] [])) _
              exact Steps.refl _)
          have q42 : Steps p.tables e below (T0.setTop (mkF m 2 #[.val (.ref o0), .val (.int p1), .val (.int p2), .val (.int i)] [])) (T2.setTop (mkF m 2 #[.val (.ref o0), .val (.int p1), .val (.int p2), .val (.int (i + (1 : Int32)))] [])) := q41.trans (by
              show Steps p.tables e below (T2.setTop (mkF m 57 #[.val (.ref o0), .val (.int p1), .val (.int p2), .val (.int i)] [])) _
              refine XS.iinc X2.here hx rfl (hb hby d3_57) rfl (l' := #[.val (.ref o0), .val (.int p1), .val (.int p2), .val (.int (i + (1 : Int32)))]) rfl ?_
              show Steps p.tables e below (T2.setTop (mkF m 60 #[.val (.ref o0), .val (.int p1), .val (.int p2), .val (.int (i + (1 : Int32)))] [])) _
              refine XS.goto X2.here hx rfl (pc0 := 60) (pc' := 2) rfl (hb hby d3_60) (by decide) (by decide) ?_
              show Steps p.tables e below (T2.setTop (mkF m 2 #[.val (.ref o0), .val (.int p1), .val (.int p2), .val (.int (i + (1 : Int32)))] [])) _
              exact Steps.refl _)
          obtain ⟨T', pc', L', X', e', d', q'⟩ := ih (i + (1 : Int32)) _ hM X2 e2
          exact ⟨T', pc', L', X', e', d', q42.trans q'⟩
      · rw [if_neg hc13] at hM
        have q43 : Steps p.tables e below (T0.setTop (mkF m 2 #[.val (.ref o0), .val (.int p1), .val (.int p2), .val (.int i)] [])) (T2.setTop (mkF m 57 #[.val (.ref o0), .val (.int p1), .val (.int p2), .val (.int i)] [])) := q12.trans (by
            show Steps p.tables e below (T2.setTop (mkF m 17 #[.val (.ref o0), .val (.int p1), .val (.int p2), .val (.int i)] [(.int (13 : Int32)), (.int v10)])) _
            refine XS.icmpYes X2.here hx rfl (pc0 := 17) (pc' := 57) rfl (hb hby d3_17) rfl (feq hc13).2 (by decide) (by decide) ?_
            show Steps p.tables e below (T2.setTop (mkF m 57 #[.val (.ref o0), .val (.int p1), .val (.int p2), .val (.int i)] [])) _
            exact Steps.refl _)
        have q44 : Steps p.tables e below (T0.setTop (mkF m 2 #[.val (.ref o0), .val (.int p1), .val (.int p2), .val (.int i)] [])) (T2.setTop (mkF m 2 #[.val (.ref o0), .val (.int p1), .val (.int p2), .val (.int (i + (1 : Int32)))] [])) := q43.trans (by
            show Steps p.tables e below (T2.setTop (mkF m 57 #[.val (.ref o0), .val (.int p1), .val (.int p2), .val (.int i)] [])) _
            refine XS.iinc X2.here hx rfl (hb hby d3_57) rfl (l' := #[.val (.ref o0), .val (.int p1), .val (.int p2), .val (.int (i + (1 : Int32)))]) rfl ?_
            show Steps p.tables e below (T2.setTop (mkF m 60 #[.val (.ref o0), .val (.int p1), .val (.int p2), .val (.int (i + (1 : Int32)))] [])) _
            refine XS.goto X2.here hx rfl (pc0 := 60) (pc' := 2) rfl (hb hby d3_60) (by decide) (by decide) ?_
            show Steps p.tables e below (T2.setTop (mkF m 2 #[.val (.ref o0), .val (.int p1), .val (.int p2), .val (.int (i + (1 : Int32)))] [])) _
            exact Steps.refl _)
        obtain ⟨T', pc', L', X', e', d', q'⟩ := ih (i + (1 : Int32)) _ hM X2 e2
        exact ⟨T', pc', L', X', e', d', q44.trans q'⟩

theorem d3_0 : decode prog_8_method_3_code 0 = .ok (.iload_n 1, 1) := by decide +kernel
theorem d3_1 : decode prog_8_method_3_code 1 = .ok (.istore_n 3, 1) := by decide +kernel
theorem pn_rmE : plainName "com/example/lettr/lettr/bench/Opening" = true := by first | (simp [plainName, overriddenIn]; done) | decide +kernel
theorem ef_rmE (m : MethodId) (o0 : Addr) (p1 : Int32) (p2 : Int32) : entryFrame m #[(.ref o0), (.int p1), (.int p2)] 4 = mkF m 0 #[.val (.ref o0), .val (.int p1), .val (.int p2), .unset] [] := by first | (simp [entryFrame, mkF, argsToLocals, Value.category]; done) | rfl
def M_head (p1 : Int32) (p2 : Int32) (xs : List Int32) : Option (Int32) := M_lpE 16 p2 xs p1
def Q_rmE (Z : State) (o0 : Addr) (p1 : Int32) (p2 : Int32) (w_HEAD_END : Addr) (vsH : List Value) (xs : List Int32) (out : Int32) (h0 : Heap) (n0 : Nat) (v : Option Value) (h : Heap) (L : List Loc) : Prop := v = some (.int out) ∧ Fr n0 L ∧ h = h0
set_option maxRecDepth 65536 in
set_option maxHeartbeats 40000000 in
theorem rmE (l : Launch) (Z : State) (a0 : Array Value) (hw : ∀ d ∈ tables_1, d.before a0 Z = true) (ws : List Jvm.Cond) (o0 : Addr) (p1 : Int32) (p2 : Int32) (w_HEAD_END : Addr) (vsH : List Value) (xs : List Int32) (out : Int32) (h0 : Heap) (n0 : Nat) (Z0 : n0 ≤ h0.size) (S_HEAD_END : Sta Z h0 "com/example/lettr/lettr/bench/Opening" "HEAD_END" "[B" (.ref w_HEAD_END)) (A_H : Own.AV Z h0 w_HEAD_END .byte vsH) (lz : vsH.length.toInt32 = (4 : Int32)) (I_o0 : Own.BA Z h0 o0 xs) (hM : M_head p1 p2 xs = some out) :
    MetFree l (⟨"com/example/lettr/lettr/bench/Opening", "headEnd", "([BII)I"⟩ : MethodName) (head1 (Jvm.Cond.code (⟨"com/example/lettr/lettr/bench/Opening", "headEnd", "([BII)I"⟩ : MethodName) prog_8_method_3_code 4 (some .int) :: ws) ({ frames := 0, cells := 0, slots := 0, locals := 0 } : Room)) (fun a U => a = #[(.ref o0), (.int p1), (.int p2)] ∧ Z.Warmed39 U.vm ∧ U.heap = h0) (fun _ _ _ _ _ => True) (fun _ U o U' => ∃ v L, o = .returned v ∧ Q_rmE Z o0 p1 p2 w_HEAD_END vsH xs out h0 n0 v U'.heap L ∧ FrameEnd U o U' L ({ frames := 0, cells := 0, slots := 0, locals := 0 } : Room).cells ({ frames := 0, cells := 0, slots := 0, locals := 0 } : Room).slots) := by
  refine MetFree.of_bodySF (plainFor_of_name pn_rmE) hisR ?_
  intro p e s m args below meth c s₁ Bd hml0 hP hK
  obtain ⟨rfl, hZ, hh⟩ := hP
  have hx := Bd.exec
  have hby := Bd.bytes
  have hml : c.maxLocals = 4 := hml0
  have hown : s.vm.findClass "com/example/lettr/lettr/bench/Opening" = some m.cls := findClass_of_methodNamed Bd.named
  have hnm := (name_of_methodNamed Bd.named Bd.method).1
  have X0 : Stand p l e ({ frames := 0, cells := 0, slots := 0, locals := 0 } : Room) s m #[(.ref o0), (.int p1), (.int p2)] below meth c s₁ [] 0 0 := Stand.of_body Bd
  have e0 : s₁.heap = h0 := by rw [← hh, Bd.state]; rfl
  have N0 := Fr.nil n0
  have q0 : Steps p.tables e below (s₁.setTop (entryFrame m #[(.ref o0), (.int p1), (.int p2)] 4)) (s₁.setTop (mkF m 0 #[.val (.ref o0), .val (.int p1), .val (.int p2), .unset] [])) := castTop (ef_rmE m o0 p1 p2) (Steps.refl _)
  unfold M_head at hM
  have q1 : Steps p.tables e below (s₁.setTop (entryFrame m #[(.ref o0), (.int p1), (.int p2)] 4)) (s₁.setTop (mkF m 2 #[.val (.ref o0), .val (.int p1), .val (.int p2), .val (.int p1)] [])) := q0.trans (by
      show Steps p.tables e below (s₁.setTop (mkF m 0 #[.val (.ref o0), .val (.int p1), .val (.int p2), .unset] [])) _
      refine XS.iloadN X0.here hx rfl (hb hby d3_0) rfl ?_
      show Steps p.tables e below (s₁.setTop (mkF m 1 #[.val (.ref o0), .val (.int p1), .val (.int p2), .unset] [(.int p1)])) _
      refine XS.istoreN X0.here hx rfl (hb hby d3_1) rfl (l' := #[.val (.ref o0), .val (.int p1), .val (.int p2), .val (.int p1)]) rfl ?_
      show Steps p.tables e below (s₁.setTop (mkF m 2 #[.val (.ref o0), .val (.int p1), .val (.int p2), .val (.int p1)] [])) _
      exact Steps.refl _)
  obtain ⟨T', pc', L', X', e', d', q'⟩ := lpE hx hZ hw hby hml hown o0 w_HEAD_END p1 vsH p2 xs lz S_HEAD_END A_H I_o0 16 p1 _ hM X0 e0
  obtain ⟨fs, hr, hrun, hended, hW, hsame⟩ := X'.leave (v := some (.int out)) (fun h => by rw [Bd.returns] at h; cases h)
  refine ⟨_, _, (q1.trans q').trans ?_, hrun, hended, _, _, rfl, ?_, ⟨_, rfl⟩, hW, hsame.mono (by decide) (by decide)⟩
  · exact retI X' hx Bd.returns d' hr
  · show Q_rmE Z o0 p1 p2 w_HEAD_END vsH xs out h0 n0 _ T'.heap _
    rw [e']
    exact ⟨rfl, N0, rfl⟩

theorem pd_0 : parseMethodDescriptor "(IJI)B" = some ⟨[.int, .long, .int], some .byte⟩ := by decide +kernel
theorem pd_1 : parseMethodDescriptor "([BIII)Z" = some ⟨[(.array .byte), .int, .int, .int], some .boolean⟩ := by decide +kernel
theorem pd_2 : parseMethodDescriptor "([BII)I" = some ⟨[(.array .byte), .int, .int], some .int⟩ := by decide +kernel
theorem pn_rm0 : plainName "com/example/lettr/lettr/bench/OpeningHeadEndPinLaw" = true := by first | (simp [plainName, overriddenIn]; done) | decide +kernel
theorem ef_rm0 (m : MethodId) (p0 : Int32) (j1 : Int64) (p2 : Int32) (p3 : Int32) : entryFrame m #[(.int p0), (.long j1), (.int p2), (.int p3)] maxLocals = mkF m 0 #[.val (.int p0), .val (.long j1), .second, .val (.int p2), .val (.int p3), .unset, .unset, .unset, .unset] [] := by first | (simp [entryFrame, mkF, argsToLocals, Value.category, maxLocals]; done) | rfl
def M_core (fr : Int32) (to : Int32) (y50 : List Int32) : Option (Int32) := (M_hit fr to (0 : Int32) y50).bind fun r56 => (if r56 = (0 : Int32) then (M_hit fr to (1 : Int32) y50).bind fun r63 => (if r63 = (0 : Int32) then (M_hit fr to (2 : Int32) y50).bind fun r70 => (if r70 = (0 : Int32) then (M_hit fr to (3 : Int32) y50).bind fun r77 => (if r77 = (0 : Int32) then (M_hit fr to (4 : Int32) y50).bind fun r84 => (some (if r84 = (0 : Int32) then (-1 : Int32) else (8 : Int32))).bind fun v88 => (M_head fr to y50).bind fun r91 => (if r91 = v88 then some (1 : Int32) else some (0 : Int32)) else (M_head fr to y50).bind fun r102 => (if r102 = (7 : Int32) then some (1 : Int32) else some (0 : Int32))) else (M_head fr to y50).bind fun r113 => (if r113 = (6 : Int32) then some (1 : Int32) else some (0 : Int32))) else (M_head fr to y50).bind fun r124 => (if r124 = (5 : Int32) then some (1 : Int32) else some (0 : Int32))) else (M_head fr to y50).bind fun r135 => (if r135 = (4 : Int32) then some (1 : Int32) else some (0 : Int32)))
def M_law (p0 : Int32) (j1 : Int64) (p2 : Int32) (p3 : Int32) : Option (Int32) := (Own.mk 8 (8 : Int32)).bind fun y2 => (Own.wt y2 (0 : Int32) (nar .byte (Fp p0 j1 (0 : Int32)))).bind fun y8 => (Own.wt y8 (1 : Int32) (nar .byte (Fp p0 j1 (1 : Int32)))).bind fun y14 => (Own.wt y14 (2 : Int32) (nar .byte (Fp p0 j1 (2 : Int32)))).bind fun y20 => (Own.wt y20 (3 : Int32) (nar .byte (Fp p0 j1 (3 : Int32)))).bind fun y26 => (Own.wt y26 (4 : Int32) (nar .byte (Fp p0 j1 (4 : Int32)))).bind fun y32 => (Own.wt y32 (5 : Int32) (nar .byte (Fp p0 j1 (5 : Int32)))).bind fun y38 => (Own.wt y38 (6 : Int32) (nar .byte (Fp p0 j1 (6 : Int32)))).bind fun y44 => (Own.wt y44 (7 : Int32) (nar .byte (Fp p0 j1 (7 : Int32)))).bind fun y50 => (some ((p2 &&& (2147483647 : Int32)) - ((p2 &&& (2147483647 : Int32)) / (9 : Int32)) * (9 : Int32))).bind fun fr => (some ((p3 &&& (2147483647 : Int32)) - ((p3 &&& (2147483647 : Int32)) / (9 : Int32)) * (9 : Int32))).bind fun to => M_core fr to y50
def Q_rm0 (Z : State) (p0 : Int32) (j1 : Int64) (p2 : Int32) (p3 : Int32) (w_HEAD_END : Addr) (vsH : List Value) (out : Int32) (h0 : Heap) (n0 : Nat) (v : Option Value) (h : Heap) (L : List Loc) : Prop := v = some (.int out) ∧ Fr n0 L
set_option maxRecDepth 65536 in
set_option maxHeartbeats 40000000 in
theorem rm0 (l : Launch) (Z : State) (a0 : Array Value) (hw : ∀ d ∈ tables_1, d.before a0 Z = true) (ws : List Jvm.Cond) (p0 : Int32) (j1 : Int64) (p2 : Int32) (p3 : Int32) (w_HEAD_END : Addr) (vsH : List Value) (out : Int32) (h0 : Heap) (n0 : Nat) (Z0 : n0 ≤ h0.size) (S_HEAD_END : Sta Z h0 "com/example/lettr/lettr/bench/Opening" "HEAD_END" "[B" (.ref w_HEAD_END)) (A_H : Own.AV Z h0 w_HEAD_END .byte vsH) (lz : vsH.length.toInt32 = (4 : Int32)) (hM : M_law p0 j1 p2 p3 = some out) :
    MetFree l x (head1 (Jvm.Cond.code x code maxLocals ret :: ws) room_1) (fun a U => a = #[(.int p0), (.long j1), (.int p2), (.int p3)] ∧ Z.Warmed39 U.vm ∧ U.heap = h0) (fun _ _ _ _ _ => True) (fun _ U o U' => ∃ v L, o = .returned v ∧ Q_rm0 Z p0 j1 p2 p3 w_HEAD_END vsH out h0 n0 v U'.heap L ∧ FrameEnd U o U' L room_1.cells room_1.slots) := by
  refine MetFree.of_bodySF (plainFor_of_name pn_rm0) hisR ?_
  intro p e s m args below meth c s₁ Bd hml0 hP hK
  obtain ⟨rfl, hZ, hh⟩ := hP
  have hx := Bd.exec
  have hby := Bd.bytes
  have hml : c.maxLocals = 9 := hml0
  have hown : s.vm.findClass "com/example/lettr/lettr/bench/OpeningHeadEndPinLaw" = some m.cls := findClass_of_methodNamed Bd.named
  have hnm := (name_of_methodNamed Bd.named Bd.method).1
  have X0 : Stand p l e room_1 s m #[(.int p0), (.long j1), (.int p2), (.int p3)] below meth c s₁ [] 0 0 := Stand.of_body Bd
  have e0 : s₁.heap = h0 := by rw [← hh, Bd.state]; rfl
  have N0 := Fr.nil n0
  have q0 : Steps p.tables e below (s₁.setTop (entryFrame m #[(.int p0), (.long j1), (.int p2), (.int p3)] maxLocals)) (s₁.setTop (mkF m 0 #[.val (.int p0), .val (.long j1), .second, .val (.int p2), .val (.int p3), .unset, .unset, .unset, .unset] [])) := castTop (ef_rm0 m p0 j1 p2 p3) (Steps.refl _)
  unfold M_law at hM
  have q1 : Steps p.tables e below (s₁.setTop (entryFrame m #[(.int p0), (.long j1), (.int p2), (.int p3)] maxLocals)) (s₁.setTop (mkF m 2 #[.val (.int p0), .val (.long j1), .second, .val (.int p2), .val (.int p3), .unset, .unset, .unset, .unset] [(.int (8 : Int32))])) := q0.trans (by
      show Steps p.tables e below (s₁.setTop (mkF m 0 #[.val (.int p0), .val (.long j1), .second, .val (.int p2), .val (.int p3), .unset, .unset, .unset, .unset] [])) _
      refine XS.bipush X0.here hx rfl (hb hby at_0) ?_
      show Steps p.tables e below (s₁.setTop (mkF m 2 #[.val (.int p0), .val (.long j1), .second, .val (.int p2), .val (.int p3), .unset, .unset, .unset, .unset] [(.int (8 : Int32))])) _
      exact Steps.refl _)
  obtain ⟨y2, hy2, hM⟩ := Option.bind_eq_some_iff.mp hM
  obtain ⟨T3, h3, k3, X3, e3, E3, A3, st3⟩ := newP X0 hx hZ (hw _ (List.mem_of_getElem? (i := 0) rfl)) e0 (g := (mkF m 2 #[.val (.int p0), .val (.long j1), .second, .val (.int p2), .val (.int p3), .unset, .unset, .unset, .unset] [(.int (8 : Int32))])) rfl (hb hby at_2) rfl (Own.mk_some hy2).1 (cap := 8) (Own.mk_some hy2).2.1 (by decide) (by decide) (by decide)
  obtain ⟨b, g3⟩ : ∃ z, z = h0.size := ⟨_, rfl⟩
  rw [← g3] at A3 st3
  have ge_b : n0 ≤ b := Nat.le_trans Z0 (Nat.le_of_eq g3.symm)
  have ne_w_HEAD_END_b : w_HEAD_END ≠ b := Nat.ne_of_lt (Nat.lt_of_lt_of_le A_H.lt (Nat.le_of_eq g3.symm))
  have Iw_HEAD_END_3 := A_H.ext E3
  have SHEAD_END_3 := S_HEAD_END.ext E3
  have Z3 : n0 ≤ h3.size := Nat.le_trans Z0 E3.1
  have I_b : Own.BA Z h3 b y2 := (Own.mk_some hy2).2.2 ▸ Own.BA.new A3 rfl
  have q4 : Steps p.tables e below (s₁.setTop (entryFrame m #[(.int p0), (.long j1), (.int p2), (.int p3)] maxLocals)) (T3.setTop (mkF m 4 #[.val (.int p0), .val (.long j1), .second, .val (.int p2), .val (.int p3), .unset, .unset, .unset, .unset] [(.ref b)])) := q1.trans (st3 _ (Steps.refl _))
  have q5 : Steps p.tables e below (s₁.setTop (entryFrame m #[(.int p0), (.long j1), (.int p2), (.int p3)] maxLocals)) (T3.setTop (mkF m 12 #[.val (.int p0), .val (.long j1), .second, .val (.int p2), .val (.int p3), .val (.ref b), .unset, .unset, .unset] [(.int (0 : Int32)), (.long j1), (.int p0), (.int (0 : Int32)), (.ref b)])) := q4.trans (by
      show Steps p.tables e below (T3.setTop (mkF m 4 #[.val (.int p0), .val (.long j1), .second, .val (.int p2), .val (.int p3), .unset, .unset, .unset, .unset] [(.ref b)])) _
      refine XS.astore X3.here hx rfl (hb hby at_4) rfl rfl (l' := #[.val (.int p0), .val (.long j1), .second, .val (.int p2), .val (.int p3), .val (.ref b), .unset, .unset, .unset]) rfl ?_
      show Steps p.tables e below (T3.setTop (mkF m 6 #[.val (.int p0), .val (.long j1), .second, .val (.int p2), .val (.int p3), .val (.ref b), .unset, .unset, .unset] [])) _
      refine XS.aload X3.here hx rfl (hb hby at_6) rfl rfl ?_
      show Steps p.tables e below (T3.setTop (mkF m 8 #[.val (.int p0), .val (.long j1), .second, .val (.int p2), .val (.int p3), .val (.ref b), .unset, .unset, .unset] [(.ref b)])) _
      refine XS.iconst X3.here hx rfl (hb hby at_8) ?_
      show Steps p.tables e below (T3.setTop (mkF m 9 #[.val (.int p0), .val (.long j1), .second, .val (.int p2), .val (.int p3), .val (.ref b), .unset, .unset, .unset] [(.int (0 : Int32)), (.ref b)])) _
      refine XS.iloadN X3.here hx rfl (hb hby at_9) rfl ?_
      show Steps p.tables e below (T3.setTop (mkF m 10 #[.val (.int p0), .val (.long j1), .second, .val (.int p2), .val (.int p3), .val (.ref b), .unset, .unset, .unset] [(.int p0), (.int (0 : Int32)), (.ref b)])) _
      refine XS.lloadN X3.here hx rfl (hb hby at_10) rfl ?_
      show Steps p.tables e below (T3.setTop (mkF m 11 #[.val (.int p0), .val (.long j1), .second, .val (.int p2), .val (.int p3), .val (.ref b), .unset, .unset, .unset] [(.long j1), (.int p0), (.int (0 : Int32)), (.ref b)])) _
      refine XS.iconst X3.here hx rfl (hb hby at_11) ?_
      show Steps p.tables e below (T3.setTop (mkF m 12 #[.val (.int p0), .val (.long j1), .second, .val (.int p2), .val (.int p3), .val (.ref b), .unset, .unset, .unset] [(.int (0 : Int32)), (.long j1), (.int p0), (.int (0 : Int32)), (.ref b)])) _
      exact Steps.refl _)
  obtain ⟨_, _, ⟨T6, L6, k6, n6⟩, -, X6, ⟨Lc6, hQ6, l6, y6, z6⟩, st6⟩ := Jvm.LawKit.callS X3 hx (y := (⟨"com/example/lettr/lettr/bench/OpeningHeadEndPinLaw", "pick", "(IJI)B"⟩ : MethodName)) hown (mvT hZ (hw _ (List.mem_of_getElem? (i := 1) rfl))) (mvT hZ (hw _ (List.mem_of_getElem? (i := 2) rfl))) (mvT hZ (hw _ (List.mem_of_getElem? (i := 3) rfl))) (mvT hZ (hw _ (List.mem_of_getElem? (i := 4) rfl))) (by decide) (backOf (W := 2) (rmP l Z a0 hw [] p0 j1 (0 : Int32) h3 n0 Z3) hZ (hw _ (List.mem_of_getElem? (i := 4) rfl)) (hw _ (List.mem_of_getElem? (i := 3) rfl)) (by decide) (by decide)) (g := (mkF m 12 #[.val (.int p0), .val (.long j1), .second, .val (.int p2), .val (.int p3), .val (.ref b), .unset, .unset, .unset] [(.int (0 : Int32)), (.long j1), (.int p0), (.int (0 : Int32)), (.ref b)])) rfl (by rw [hml]; rfl) (argsL := [(.int p0), (.long j1), (.int (0 : Int32))]) (rest := [(.int (0 : Int32)), (.ref b)]) (lenOf pd_0 rfl) rfl (by show 2 * 0 + _ ≤ _; exact Nat.le_of_eq rfl) (hb hby at_12) (fun _ _ => ⟨rfl, e3, (by decide : 1 + 0 ≤ _), (by decide : 8 + 0 ≤ _)⟩)
  dsimp only [Pt.U, Pt.locs, Pt.cells, Pt.slots] at X6 l6 y6 z6 st6 hQ6
  subst l6 y6 z6
  obtain ⟨rfl, N6q, e6⟩ := hQ6
  have N6 := Fr.app N0 N6q
  have q7 : Steps p.tables e below (s₁.setTop (entryFrame m #[(.int p0), (.long j1), (.int p2), (.int p3)] maxLocals)) (T6.setTop (mkF m 15 #[.val (.int p0), .val (.long j1), .second, .val (.int p2), .val (.int p3), .val (.ref b), .unset, .unset, .unset] [(.int (Fp p0 j1 (0 : Int32))), (.int (0 : Int32)), (.ref b)])) := q5.trans (st6 _ (Steps.refl _))
  obtain ⟨y8, hy8, hM⟩ := Option.bind_eq_some_iff.mp hM
  obtain ⟨T9, h9, X9, e9, W9, J9, st9⟩ := Own.stBO X6 hx hZ e6 I_b hy8 (g := (mkF m 15 #[.val (.int p0), .val (.long j1), .second, .val (.int p2), .val (.int p3), .val (.ref b), .unset, .unset, .unset] [(.int (Fp p0 j1 (0 : Int32))), (.int (0 : Int32)), (.ref b)])) rfl rfl (hb hby at_15)
  have N9 := Fr.snoc X9 N6 ge_b
  have Iw_HEAD_END_9 := Iw_HEAD_END_3.other W9 ne_w_HEAD_END_b
  have SHEAD_END_9 := SHEAD_END_3.wr W9
  have Z9 : n0 ≤ h9.size := Own.size_wr W9 Z3
  have q10 : Steps p.tables e below (s₁.setTop (entryFrame m #[(.int p0), (.long j1), (.int p2), (.int p3)] maxLocals)) (T9.setTop (mkF m 16 #[.val (.int p0), .val (.long j1), .second, .val (.int p2), .val (.int p3), .val (.ref b), .unset, .unset, .unset] [])) := q7.trans (st9 _ (Steps.refl _))
  have q11 : Steps p.tables e below (s₁.setTop (entryFrame m #[(.int p0), (.long j1), (.int p2), (.int p3)] maxLocals)) (T9.setTop (mkF m 22 #[.val (.int p0), .val (.long j1), .second, .val (.int p2), .val (.int p3), .val (.ref b), .unset, .unset, .unset] [(.int (1 : Int32)), (.long j1), (.int p0), (.int (1 : Int32)), (.ref b)])) := q10.trans (by
      show Steps p.tables e below (T9.setTop (mkF m 16 #[.val (.int p0), .val (.long j1), .second, .val (.int p2), .val (.int p3), .val (.ref b), .unset, .unset, .unset] [])) _
      refine XS.aload X9.here hx rfl (hb hby at_16) rfl rfl ?_
      show Steps p.tables e below (T9.setTop (mkF m 18 #[.val (.int p0), .val (.long j1), .second, .val (.int p2), .val (.int p3), .val (.ref b), .unset, .unset, .unset] [(.ref b)])) _
      refine XS.iconst X9.here hx rfl (hb hby at_18) ?_
      show Steps p.tables e below (T9.setTop (mkF m 19 #[.val (.int p0), .val (.long j1), .second, .val (.int p2), .val (.int p3), .val (.ref b), .unset, .unset, .unset] [(.int (1 : Int32)), (.ref b)])) _
      refine XS.iloadN X9.here hx rfl (hb hby at_19) rfl ?_
      show Steps p.tables e below (T9.setTop (mkF m 20 #[.val (.int p0), .val (.long j1), .second, .val (.int p2), .val (.int p3), .val (.ref b), .unset, .unset, .unset] [(.int p0), (.int (1 : Int32)), (.ref b)])) _
      refine XS.lloadN X9.here hx rfl (hb hby at_20) rfl ?_
      show Steps p.tables e below (T9.setTop (mkF m 21 #[.val (.int p0), .val (.long j1), .second, .val (.int p2), .val (.int p3), .val (.ref b), .unset, .unset, .unset] [(.long j1), (.int p0), (.int (1 : Int32)), (.ref b)])) _
      refine XS.iconst X9.here hx rfl (hb hby at_21) ?_
      show Steps p.tables e below (T9.setTop (mkF m 22 #[.val (.int p0), .val (.long j1), .second, .val (.int p2), .val (.int p3), .val (.ref b), .unset, .unset, .unset] [(.int (1 : Int32)), (.long j1), (.int p0), (.int (1 : Int32)), (.ref b)])) _
      exact Steps.refl _)
  obtain ⟨_, _, ⟨T12, L12, k12, n12⟩, -, X12, ⟨Lc12, hQ12, l12, y12, z12⟩, st12⟩ := Jvm.LawKit.callS X9 hx (y := (⟨"com/example/lettr/lettr/bench/OpeningHeadEndPinLaw", "pick", "(IJI)B"⟩ : MethodName)) hown (mvT hZ (hw _ (List.mem_of_getElem? (i := 1) rfl))) (mvT hZ (hw _ (List.mem_of_getElem? (i := 2) rfl))) (mvT hZ (hw _ (List.mem_of_getElem? (i := 3) rfl))) (mvT hZ (hw _ (List.mem_of_getElem? (i := 4) rfl))) (by decide) (backOf (W := 2) (rmP l Z a0 hw [] p0 j1 (1 : Int32) h9 n0 Z9) hZ (hw _ (List.mem_of_getElem? (i := 4) rfl)) (hw _ (List.mem_of_getElem? (i := 3) rfl)) (by decide) (by decide)) (g := (mkF m 22 #[.val (.int p0), .val (.long j1), .second, .val (.int p2), .val (.int p3), .val (.ref b), .unset, .unset, .unset] [(.int (1 : Int32)), (.long j1), (.int p0), (.int (1 : Int32)), (.ref b)])) rfl (by rw [hml]; rfl) (argsL := [(.int p0), (.long j1), (.int (1 : Int32))]) (rest := [(.int (1 : Int32)), (.ref b)]) (lenOf pd_0 rfl) rfl (by show 2 * 0 + _ ≤ _; exact Nat.le_of_eq rfl) (hb hby at_22) (fun _ _ => ⟨rfl, e9, (by decide : 1 + 0 ≤ _), (by decide : 8 + 0 ≤ _)⟩)
  dsimp only [Pt.U, Pt.locs, Pt.cells, Pt.slots] at X12 l12 y12 z12 st12 hQ12
  subst l12 y12 z12
  obtain ⟨rfl, N12q, e12⟩ := hQ12
  have N12 := Fr.app N9 N12q
  have q13 : Steps p.tables e below (s₁.setTop (entryFrame m #[(.int p0), (.long j1), (.int p2), (.int p3)] maxLocals)) (T12.setTop (mkF m 25 #[.val (.int p0), .val (.long j1), .second, .val (.int p2), .val (.int p3), .val (.ref b), .unset, .unset, .unset] [(.int (Fp p0 j1 (1 : Int32))), (.int (1 : Int32)), (.ref b)])) := q11.trans (st12 _ (Steps.refl _))
  obtain ⟨y14, hy14, hM⟩ := Option.bind_eq_some_iff.mp hM
  obtain ⟨T15, h15, X15, e15, W15, J15, st15⟩ := Own.stBO X12 hx hZ e12 J9 hy14 (g := (mkF m 25 #[.val (.int p0), .val (.long j1), .second, .val (.int p2), .val (.int p3), .val (.ref b), .unset, .unset, .unset] [(.int (Fp p0 j1 (1 : Int32))), (.int (1 : Int32)), (.ref b)])) rfl rfl (hb hby at_25)
  have N15 := Fr.snoc X15 N12 ge_b
  have Iw_HEAD_END_15 := Iw_HEAD_END_9.other W15 ne_w_HEAD_END_b
  have SHEAD_END_15 := SHEAD_END_9.wr W15
  have Z15 : n0 ≤ h15.size := Own.size_wr W15 Z9
  have q16 : Steps p.tables e below (s₁.setTop (entryFrame m #[(.int p0), (.long j1), (.int p2), (.int p3)] maxLocals)) (T15.setTop (mkF m 26 #[.val (.int p0), .val (.long j1), .second, .val (.int p2), .val (.int p3), .val (.ref b), .unset, .unset, .unset] [])) := q13.trans (st15 _ (Steps.refl _))
  have q17 : Steps p.tables e below (s₁.setTop (entryFrame m #[(.int p0), (.long j1), (.int p2), (.int p3)] maxLocals)) (T15.setTop (mkF m 32 #[.val (.int p0), .val (.long j1), .second, .val (.int p2), .val (.int p3), .val (.ref b), .unset, .unset, .unset] [(.int (2 : Int32)), (.long j1), (.int p0), (.int (2 : Int32)), (.ref b)])) := q16.trans (by
      show Steps p.tables e below (T15.setTop (mkF m 26 #[.val (.int p0), .val (.long j1), .second, .val (.int p2), .val (.int p3), .val (.ref b), .unset, .unset, .unset] [])) _
      refine XS.aload X15.here hx rfl (hb hby at_26) rfl rfl ?_
      show Steps p.tables e below (T15.setTop (mkF m 28 #[.val (.int p0), .val (.long j1), .second, .val (.int p2), .val (.int p3), .val (.ref b), .unset, .unset, .unset] [(.ref b)])) _
      refine XS.iconst X15.here hx rfl (hb hby at_28) ?_
      show Steps p.tables e below (T15.setTop (mkF m 29 #[.val (.int p0), .val (.long j1), .second, .val (.int p2), .val (.int p3), .val (.ref b), .unset, .unset, .unset] [(.int (2 : Int32)), (.ref b)])) _
      refine XS.iloadN X15.here hx rfl (hb hby at_29) rfl ?_
      show Steps p.tables e below (T15.setTop (mkF m 30 #[.val (.int p0), .val (.long j1), .second, .val (.int p2), .val (.int p3), .val (.ref b), .unset, .unset, .unset] [(.int p0), (.int (2 : Int32)), (.ref b)])) _
      refine XS.lloadN X15.here hx rfl (hb hby at_30) rfl ?_
      show Steps p.tables e below (T15.setTop (mkF m 31 #[.val (.int p0), .val (.long j1), .second, .val (.int p2), .val (.int p3), .val (.ref b), .unset, .unset, .unset] [(.long j1), (.int p0), (.int (2 : Int32)), (.ref b)])) _
      refine XS.iconst X15.here hx rfl (hb hby at_31) ?_
      show Steps p.tables e below (T15.setTop (mkF m 32 #[.val (.int p0), .val (.long j1), .second, .val (.int p2), .val (.int p3), .val (.ref b), .unset, .unset, .unset] [(.int (2 : Int32)), (.long j1), (.int p0), (.int (2 : Int32)), (.ref b)])) _
      exact Steps.refl _)
  obtain ⟨_, _, ⟨T18, L18, k18, n18⟩, -, X18, ⟨Lc18, hQ18, l18, y18, z18⟩, st18⟩ := Jvm.LawKit.callS X15 hx (y := (⟨"com/example/lettr/lettr/bench/OpeningHeadEndPinLaw", "pick", "(IJI)B"⟩ : MethodName)) hown (mvT hZ (hw _ (List.mem_of_getElem? (i := 1) rfl))) (mvT hZ (hw _ (List.mem_of_getElem? (i := 2) rfl))) (mvT hZ (hw _ (List.mem_of_getElem? (i := 3) rfl))) (mvT hZ (hw _ (List.mem_of_getElem? (i := 4) rfl))) (by decide) (backOf (W := 2) (rmP l Z a0 hw [] p0 j1 (2 : Int32) h15 n0 Z15) hZ (hw _ (List.mem_of_getElem? (i := 4) rfl)) (hw _ (List.mem_of_getElem? (i := 3) rfl)) (by decide) (by decide)) (g := (mkF m 32 #[.val (.int p0), .val (.long j1), .second, .val (.int p2), .val (.int p3), .val (.ref b), .unset, .unset, .unset] [(.int (2 : Int32)), (.long j1), (.int p0), (.int (2 : Int32)), (.ref b)])) rfl (by rw [hml]; rfl) (argsL := [(.int p0), (.long j1), (.int (2 : Int32))]) (rest := [(.int (2 : Int32)), (.ref b)]) (lenOf pd_0 rfl) rfl (by show 2 * 0 + _ ≤ _; exact Nat.le_of_eq rfl) (hb hby at_32) (fun _ _ => ⟨rfl, e15, (by decide : 1 + 0 ≤ _), (by decide : 8 + 0 ≤ _)⟩)
  dsimp only [Pt.U, Pt.locs, Pt.cells, Pt.slots] at X18 l18 y18 z18 st18 hQ18
  subst l18 y18 z18
  obtain ⟨rfl, N18q, e18⟩ := hQ18
  have N18 := Fr.app N15 N18q
  have q19 : Steps p.tables e below (s₁.setTop (entryFrame m #[(.int p0), (.long j1), (.int p2), (.int p3)] maxLocals)) (T18.setTop (mkF m 35 #[.val (.int p0), .val (.long j1), .second, .val (.int p2), .val (.int p3), .val (.ref b), .unset, .unset, .unset] [(.int (Fp p0 j1 (2 : Int32))), (.int (2 : Int32)), (.ref b)])) := q17.trans (st18 _ (Steps.refl _))
  obtain ⟨y20, hy20, hM⟩ := Option.bind_eq_some_iff.mp hM
  obtain ⟨T21, h21, X21, e21, W21, J21, st21⟩ := Own.stBO X18 hx hZ e18 J15 hy20 (g := (mkF m 35 #[.val (.int p0), .val (.long j1), .second, .val (.int p2), .val (.int p3), .val (.ref b), .unset, .unset, .unset] [(.int (Fp p0 j1 (2 : Int32))), (.int (2 : Int32)), (.ref b)])) rfl rfl (hb hby at_35)
  have N21 := Fr.snoc X21 N18 ge_b
  have Iw_HEAD_END_21 := Iw_HEAD_END_15.other W21 ne_w_HEAD_END_b
  have SHEAD_END_21 := SHEAD_END_15.wr W21
  have Z21 : n0 ≤ h21.size := Own.size_wr W21 Z15
  have q22 : Steps p.tables e below (s₁.setTop (entryFrame m #[(.int p0), (.long j1), (.int p2), (.int p3)] maxLocals)) (T21.setTop (mkF m 36 #[.val (.int p0), .val (.long j1), .second, .val (.int p2), .val (.int p3), .val (.ref b), .unset, .unset, .unset] [])) := q19.trans (st21 _ (Steps.refl _))
  have q23 : Steps p.tables e below (s₁.setTop (entryFrame m #[(.int p0), (.long j1), (.int p2), (.int p3)] maxLocals)) (T21.setTop (mkF m 42 #[.val (.int p0), .val (.long j1), .second, .val (.int p2), .val (.int p3), .val (.ref b), .unset, .unset, .unset] [(.int (3 : Int32)), (.long j1), (.int p0), (.int (3 : Int32)), (.ref b)])) := q22.trans (by
      show Steps p.tables e below (T21.setTop (mkF m 36 #[.val (.int p0), .val (.long j1), .second, .val (.int p2), .val (.int p3), .val (.ref b), .unset, .unset, .unset] [])) _
      refine XS.aload X21.here hx rfl (hb hby at_36) rfl rfl ?_
      show Steps p.tables e below (T21.setTop (mkF m 38 #[.val (.int p0), .val (.long j1), .second, .val (.int p2), .val (.int p3), .val (.ref b), .unset, .unset, .unset] [(.ref b)])) _
      refine XS.iconst X21.here hx rfl (hb hby at_38) ?_
      show Steps p.tables e below (T21.setTop (mkF m 39 #[.val (.int p0), .val (.long j1), .second, .val (.int p2), .val (.int p3), .val (.ref b), .unset, .unset, .unset] [(.int (3 : Int32)), (.ref b)])) _
      refine XS.iloadN X21.here hx rfl (hb hby at_39) rfl ?_
      show Steps p.tables e below (T21.setTop (mkF m 40 #[.val (.int p0), .val (.long j1), .second, .val (.int p2), .val (.int p3), .val (.ref b), .unset, .unset, .unset] [(.int p0), (.int (3 : Int32)), (.ref b)])) _
      refine XS.lloadN X21.here hx rfl (hb hby at_40) rfl ?_
      show Steps p.tables e below (T21.setTop (mkF m 41 #[.val (.int p0), .val (.long j1), .second, .val (.int p2), .val (.int p3), .val (.ref b), .unset, .unset, .unset] [(.long j1), (.int p0), (.int (3 : Int32)), (.ref b)])) _
      refine XS.iconst X21.here hx rfl (hb hby at_41) ?_
      show Steps p.tables e below (T21.setTop (mkF m 42 #[.val (.int p0), .val (.long j1), .second, .val (.int p2), .val (.int p3), .val (.ref b), .unset, .unset, .unset] [(.int (3 : Int32)), (.long j1), (.int p0), (.int (3 : Int32)), (.ref b)])) _
      exact Steps.refl _)
  obtain ⟨_, _, ⟨T24, L24, k24, n24⟩, -, X24, ⟨Lc24, hQ24, l24, y24, z24⟩, st24⟩ := Jvm.LawKit.callS X21 hx (y := (⟨"com/example/lettr/lettr/bench/OpeningHeadEndPinLaw", "pick", "(IJI)B"⟩ : MethodName)) hown (mvT hZ (hw _ (List.mem_of_getElem? (i := 1) rfl))) (mvT hZ (hw _ (List.mem_of_getElem? (i := 2) rfl))) (mvT hZ (hw _ (List.mem_of_getElem? (i := 3) rfl))) (mvT hZ (hw _ (List.mem_of_getElem? (i := 4) rfl))) (by decide) (backOf (W := 2) (rmP l Z a0 hw [] p0 j1 (3 : Int32) h21 n0 Z21) hZ (hw _ (List.mem_of_getElem? (i := 4) rfl)) (hw _ (List.mem_of_getElem? (i := 3) rfl)) (by decide) (by decide)) (g := (mkF m 42 #[.val (.int p0), .val (.long j1), .second, .val (.int p2), .val (.int p3), .val (.ref b), .unset, .unset, .unset] [(.int (3 : Int32)), (.long j1), (.int p0), (.int (3 : Int32)), (.ref b)])) rfl (by rw [hml]; rfl) (argsL := [(.int p0), (.long j1), (.int (3 : Int32))]) (rest := [(.int (3 : Int32)), (.ref b)]) (lenOf pd_0 rfl) rfl (by show 2 * 0 + _ ≤ _; exact Nat.le_of_eq rfl) (hb hby at_42) (fun _ _ => ⟨rfl, e21, (by decide : 1 + 0 ≤ _), (by decide : 8 + 0 ≤ _)⟩)
  dsimp only [Pt.U, Pt.locs, Pt.cells, Pt.slots] at X24 l24 y24 z24 st24 hQ24
  subst l24 y24 z24
  obtain ⟨rfl, N24q, e24⟩ := hQ24
  have N24 := Fr.app N21 N24q
  have q25 : Steps p.tables e below (s₁.setTop (entryFrame m #[(.int p0), (.long j1), (.int p2), (.int p3)] maxLocals)) (T24.setTop (mkF m 45 #[.val (.int p0), .val (.long j1), .second, .val (.int p2), .val (.int p3), .val (.ref b), .unset, .unset, .unset] [(.int (Fp p0 j1 (3 : Int32))), (.int (3 : Int32)), (.ref b)])) := q23.trans (st24 _ (Steps.refl _))
  obtain ⟨y26, hy26, hM⟩ := Option.bind_eq_some_iff.mp hM
  obtain ⟨T27, h27, X27, e27, W27, J27, st27⟩ := Own.stBO X24 hx hZ e24 J21 hy26 (g := (mkF m 45 #[.val (.int p0), .val (.long j1), .second, .val (.int p2), .val (.int p3), .val (.ref b), .unset, .unset, .unset] [(.int (Fp p0 j1 (3 : Int32))), (.int (3 : Int32)), (.ref b)])) rfl rfl (hb hby at_45)
  have N27 := Fr.snoc X27 N24 ge_b
  have Iw_HEAD_END_27 := Iw_HEAD_END_21.other W27 ne_w_HEAD_END_b
  have SHEAD_END_27 := SHEAD_END_21.wr W27
  have Z27 : n0 ≤ h27.size := Own.size_wr W27 Z21
  have q28 : Steps p.tables e below (s₁.setTop (entryFrame m #[(.int p0), (.long j1), (.int p2), (.int p3)] maxLocals)) (T27.setTop (mkF m 46 #[.val (.int p0), .val (.long j1), .second, .val (.int p2), .val (.int p3), .val (.ref b), .unset, .unset, .unset] [])) := q25.trans (st27 _ (Steps.refl _))
  have q29 : Steps p.tables e below (s₁.setTop (entryFrame m #[(.int p0), (.long j1), (.int p2), (.int p3)] maxLocals)) (T27.setTop (mkF m 52 #[.val (.int p0), .val (.long j1), .second, .val (.int p2), .val (.int p3), .val (.ref b), .unset, .unset, .unset] [(.int (4 : Int32)), (.long j1), (.int p0), (.int (4 : Int32)), (.ref b)])) := q28.trans (by
      show Steps p.tables e below (T27.setTop (mkF m 46 #[.val (.int p0), .val (.long j1), .second, .val (.int p2), .val (.int p3), .val (.ref b), .unset, .unset, .unset] [])) _
      refine XS.aload X27.here hx rfl (hb hby at_46) rfl rfl ?_
      show Steps p.tables e below (T27.setTop (mkF m 48 #[.val (.int p0), .val (.long j1), .second, .val (.int p2), .val (.int p3), .val (.ref b), .unset, .unset, .unset] [(.ref b)])) _
      refine XS.iconst X27.here hx rfl (hb hby at_48) ?_
      show Steps p.tables e below (T27.setTop (mkF m 49 #[.val (.int p0), .val (.long j1), .second, .val (.int p2), .val (.int p3), .val (.ref b), .unset, .unset, .unset] [(.int (4 : Int32)), (.ref b)])) _
      refine XS.iloadN X27.here hx rfl (hb hby at_49) rfl ?_
      show Steps p.tables e below (T27.setTop (mkF m 50 #[.val (.int p0), .val (.long j1), .second, .val (.int p2), .val (.int p3), .val (.ref b), .unset, .unset, .unset] [(.int p0), (.int (4 : Int32)), (.ref b)])) _
      refine XS.lloadN X27.here hx rfl (hb hby at_50) rfl ?_
      show Steps p.tables e below (T27.setTop (mkF m 51 #[.val (.int p0), .val (.long j1), .second, .val (.int p2), .val (.int p3), .val (.ref b), .unset, .unset, .unset] [(.long j1), (.int p0), (.int (4 : Int32)), (.ref b)])) _
      refine XS.iconst X27.here hx rfl (hb hby at_51) ?_
      show Steps p.tables e below (T27.setTop (mkF m 52 #[.val (.int p0), .val (.long j1), .second, .val (.int p2), .val (.int p3), .val (.ref b), .unset, .unset, .unset] [(.int (4 : Int32)), (.long j1), (.int p0), (.int (4 : Int32)), (.ref b)])) _
      exact Steps.refl _)
  obtain ⟨_, _, ⟨T30, L30, k30, n30⟩, -, X30, ⟨Lc30, hQ30, l30, y30, z30⟩, st30⟩ := Jvm.LawKit.callS X27 hx (y := (⟨"com/example/lettr/lettr/bench/OpeningHeadEndPinLaw", "pick", "(IJI)B"⟩ : MethodName)) hown (mvT hZ (hw _ (List.mem_of_getElem? (i := 1) rfl))) (mvT hZ (hw _ (List.mem_of_getElem? (i := 2) rfl))) (mvT hZ (hw _ (List.mem_of_getElem? (i := 3) rfl))) (mvT hZ (hw _ (List.mem_of_getElem? (i := 4) rfl))) (by decide) (backOf (W := 2) (rmP l Z a0 hw [] p0 j1 (4 : Int32) h27 n0 Z27) hZ (hw _ (List.mem_of_getElem? (i := 4) rfl)) (hw _ (List.mem_of_getElem? (i := 3) rfl)) (by decide) (by decide)) (g := (mkF m 52 #[.val (.int p0), .val (.long j1), .second, .val (.int p2), .val (.int p3), .val (.ref b), .unset, .unset, .unset] [(.int (4 : Int32)), (.long j1), (.int p0), (.int (4 : Int32)), (.ref b)])) rfl (by rw [hml]; rfl) (argsL := [(.int p0), (.long j1), (.int (4 : Int32))]) (rest := [(.int (4 : Int32)), (.ref b)]) (lenOf pd_0 rfl) rfl (by show 2 * 0 + _ ≤ _; exact Nat.le_of_eq rfl) (hb hby at_52) (fun _ _ => ⟨rfl, e27, (by decide : 1 + 0 ≤ _), (by decide : 8 + 0 ≤ _)⟩)
  dsimp only [Pt.U, Pt.locs, Pt.cells, Pt.slots] at X30 l30 y30 z30 st30 hQ30
  subst l30 y30 z30
  obtain ⟨rfl, N30q, e30⟩ := hQ30
  have N30 := Fr.app N27 N30q
  have q31 : Steps p.tables e below (s₁.setTop (entryFrame m #[(.int p0), (.long j1), (.int p2), (.int p3)] maxLocals)) (T30.setTop (mkF m 55 #[.val (.int p0), .val (.long j1), .second, .val (.int p2), .val (.int p3), .val (.ref b), .unset, .unset, .unset] [(.int (Fp p0 j1 (4 : Int32))), (.int (4 : Int32)), (.ref b)])) := q29.trans (st30 _ (Steps.refl _))
  obtain ⟨y32, hy32, hM⟩ := Option.bind_eq_some_iff.mp hM
  obtain ⟨T33, h33, X33, e33, W33, J33, st33⟩ := Own.stBO X30 hx hZ e30 J27 hy32 (g := (mkF m 55 #[.val (.int p0), .val (.long j1), .second, .val (.int p2), .val (.int p3), .val (.ref b), .unset, .unset, .unset] [(.int (Fp p0 j1 (4 : Int32))), (.int (4 : Int32)), (.ref b)])) rfl rfl (hb hby at_55)
  have N33 := Fr.snoc X33 N30 ge_b
  have Iw_HEAD_END_33 := Iw_HEAD_END_27.other W33 ne_w_HEAD_END_b
  have SHEAD_END_33 := SHEAD_END_27.wr W33
  have Z33 : n0 ≤ h33.size := Own.size_wr W33 Z27
  have q34 : Steps p.tables e below (s₁.setTop (entryFrame m #[(.int p0), (.long j1), (.int p2), (.int p3)] maxLocals)) (T33.setTop (mkF m 56 #[.val (.int p0), .val (.long j1), .second, .val (.int p2), .val (.int p3), .val (.ref b), .unset, .unset, .unset] [])) := q31.trans (st33 _ (Steps.refl _))
  have q35 : Steps p.tables e below (s₁.setTop (entryFrame m #[(.int p0), (.long j1), (.int p2), (.int p3)] maxLocals)) (T33.setTop (mkF m 62 #[.val (.int p0), .val (.long j1), .second, .val (.int p2), .val (.int p3), .val (.ref b), .unset, .unset, .unset] [(.int (5 : Int32)), (.long j1), (.int p0), (.int (5 : Int32)), (.ref b)])) := q34.trans (by
      show Steps p.tables e below (T33.setTop (mkF m 56 #[.val (.int p0), .val (.long j1), .second, .val (.int p2), .val (.int p3), .val (.ref b), .unset, .unset, .unset] [])) _
      refine XS.aload X33.here hx rfl (hb hby at_56) rfl rfl ?_
      show Steps p.tables e below (T33.setTop (mkF m 58 #[.val (.int p0), .val (.long j1), .second, .val (.int p2), .val (.int p3), .val (.ref b), .unset, .unset, .unset] [(.ref b)])) _
      refine XS.iconst X33.here hx rfl (hb hby at_58) ?_
      show Steps p.tables e below (T33.setTop (mkF m 59 #[.val (.int p0), .val (.long j1), .second, .val (.int p2), .val (.int p3), .val (.ref b), .unset, .unset, .unset] [(.int (5 : Int32)), (.ref b)])) _
      refine XS.iloadN X33.here hx rfl (hb hby at_59) rfl ?_
      show Steps p.tables e below (T33.setTop (mkF m 60 #[.val (.int p0), .val (.long j1), .second, .val (.int p2), .val (.int p3), .val (.ref b), .unset, .unset, .unset] [(.int p0), (.int (5 : Int32)), (.ref b)])) _
      refine XS.lloadN X33.here hx rfl (hb hby at_60) rfl ?_
      show Steps p.tables e below (T33.setTop (mkF m 61 #[.val (.int p0), .val (.long j1), .second, .val (.int p2), .val (.int p3), .val (.ref b), .unset, .unset, .unset] [(.long j1), (.int p0), (.int (5 : Int32)), (.ref b)])) _
      refine XS.iconst X33.here hx rfl (hb hby at_61) ?_
      show Steps p.tables e below (T33.setTop (mkF m 62 #[.val (.int p0), .val (.long j1), .second, .val (.int p2), .val (.int p3), .val (.ref b), .unset, .unset, .unset] [(.int (5 : Int32)), (.long j1), (.int p0), (.int (5 : Int32)), (.ref b)])) _
      exact Steps.refl _)
  obtain ⟨_, _, ⟨T36, L36, k36, n36⟩, -, X36, ⟨Lc36, hQ36, l36, y36, z36⟩, st36⟩ := Jvm.LawKit.callS X33 hx (y := (⟨"com/example/lettr/lettr/bench/OpeningHeadEndPinLaw", "pick", "(IJI)B"⟩ : MethodName)) hown (mvT hZ (hw _ (List.mem_of_getElem? (i := 1) rfl))) (mvT hZ (hw _ (List.mem_of_getElem? (i := 2) rfl))) (mvT hZ (hw _ (List.mem_of_getElem? (i := 3) rfl))) (mvT hZ (hw _ (List.mem_of_getElem? (i := 4) rfl))) (by decide) (backOf (W := 2) (rmP l Z a0 hw [] p0 j1 (5 : Int32) h33 n0 Z33) hZ (hw _ (List.mem_of_getElem? (i := 4) rfl)) (hw _ (List.mem_of_getElem? (i := 3) rfl)) (by decide) (by decide)) (g := (mkF m 62 #[.val (.int p0), .val (.long j1), .second, .val (.int p2), .val (.int p3), .val (.ref b), .unset, .unset, .unset] [(.int (5 : Int32)), (.long j1), (.int p0), (.int (5 : Int32)), (.ref b)])) rfl (by rw [hml]; rfl) (argsL := [(.int p0), (.long j1), (.int (5 : Int32))]) (rest := [(.int (5 : Int32)), (.ref b)]) (lenOf pd_0 rfl) rfl (by show 2 * 0 + _ ≤ _; exact Nat.le_of_eq rfl) (hb hby at_62) (fun _ _ => ⟨rfl, e33, (by decide : 1 + 0 ≤ _), (by decide : 8 + 0 ≤ _)⟩)
  dsimp only [Pt.U, Pt.locs, Pt.cells, Pt.slots] at X36 l36 y36 z36 st36 hQ36
  subst l36 y36 z36
  obtain ⟨rfl, N36q, e36⟩ := hQ36
  have N36 := Fr.app N33 N36q
  have q37 : Steps p.tables e below (s₁.setTop (entryFrame m #[(.int p0), (.long j1), (.int p2), (.int p3)] maxLocals)) (T36.setTop (mkF m 65 #[.val (.int p0), .val (.long j1), .second, .val (.int p2), .val (.int p3), .val (.ref b), .unset, .unset, .unset] [(.int (Fp p0 j1 (5 : Int32))), (.int (5 : Int32)), (.ref b)])) := q35.trans (st36 _ (Steps.refl _))
  obtain ⟨y38, hy38, hM⟩ := Option.bind_eq_some_iff.mp hM
  obtain ⟨T39, h39, X39, e39, W39, J39, st39⟩ := Own.stBO X36 hx hZ e36 J33 hy38 (g := (mkF m 65 #[.val (.int p0), .val (.long j1), .second, .val (.int p2), .val (.int p3), .val (.ref b), .unset, .unset, .unset] [(.int (Fp p0 j1 (5 : Int32))), (.int (5 : Int32)), (.ref b)])) rfl rfl (hb hby at_65)
  have N39 := Fr.snoc X39 N36 ge_b
  have Iw_HEAD_END_39 := Iw_HEAD_END_33.other W39 ne_w_HEAD_END_b
  have SHEAD_END_39 := SHEAD_END_33.wr W39
  have Z39 : n0 ≤ h39.size := Own.size_wr W39 Z33
  have q40 : Steps p.tables e below (s₁.setTop (entryFrame m #[(.int p0), (.long j1), (.int p2), (.int p3)] maxLocals)) (T39.setTop (mkF m 66 #[.val (.int p0), .val (.long j1), .second, .val (.int p2), .val (.int p3), .val (.ref b), .unset, .unset, .unset] [])) := q37.trans (st39 _ (Steps.refl _))
  have q41 : Steps p.tables e below (s₁.setTop (entryFrame m #[(.int p0), (.long j1), (.int p2), (.int p3)] maxLocals)) (T39.setTop (mkF m 74 #[.val (.int p0), .val (.long j1), .second, .val (.int p2), .val (.int p3), .val (.ref b), .unset, .unset, .unset] [(.int (6 : Int32)), (.long j1), (.int p0), (.int (6 : Int32)), (.ref b)])) := q40.trans (by
      show Steps p.tables e below (T39.setTop (mkF m 66 #[.val (.int p0), .val (.long j1), .second, .val (.int p2), .val (.int p3), .val (.ref b), .unset, .unset, .unset] [])) _
      refine XS.aload X39.here hx rfl (hb hby at_66) rfl rfl ?_
      show Steps p.tables e below (T39.setTop (mkF m 68 #[.val (.int p0), .val (.long j1), .second, .val (.int p2), .val (.int p3), .val (.ref b), .unset, .unset, .unset] [(.ref b)])) _
      refine XS.bipush X39.here hx rfl (hb hby at_68) ?_
      show Steps p.tables e below (T39.setTop (mkF m 70 #[.val (.int p0), .val (.long j1), .second, .val (.int p2), .val (.int p3), .val (.ref b), .unset, .unset, .unset] [(.int (6 : Int32)), (.ref b)])) _
      refine XS.iloadN X39.here hx rfl (hb hby at_70) rfl ?_
      show Steps p.tables e below (T39.setTop (mkF m 71 #[.val (.int p0), .val (.long j1), .second, .val (.int p2), .val (.int p3), .val (.ref b), .unset, .unset, .unset] [(.int p0), (.int (6 : Int32)), (.ref b)])) _
      refine XS.lloadN X39.here hx rfl (hb hby at_71) rfl ?_
      show Steps p.tables e below (T39.setTop (mkF m 72 #[.val (.int p0), .val (.long j1), .second, .val (.int p2), .val (.int p3), .val (.ref b), .unset, .unset, .unset] [(.long j1), (.int p0), (.int (6 : Int32)), (.ref b)])) _
      refine XS.bipush X39.here hx rfl (hb hby at_72) ?_
      show Steps p.tables e below (T39.setTop (mkF m 74 #[.val (.int p0), .val (.long j1), .second, .val (.int p2), .val (.int p3), .val (.ref b), .unset, .unset, .unset] [(.int (6 : Int32)), (.long j1), (.int p0), (.int (6 : Int32)), (.ref b)])) _
      exact Steps.refl _)
  obtain ⟨_, _, ⟨T42, L42, k42, n42⟩, -, X42, ⟨Lc42, hQ42, l42, y42, z42⟩, st42⟩ := Jvm.LawKit.callS X39 hx (y := (⟨"com/example/lettr/lettr/bench/OpeningHeadEndPinLaw", "pick", "(IJI)B"⟩ : MethodName)) hown (mvT hZ (hw _ (List.mem_of_getElem? (i := 1) rfl))) (mvT hZ (hw _ (List.mem_of_getElem? (i := 2) rfl))) (mvT hZ (hw _ (List.mem_of_getElem? (i := 3) rfl))) (mvT hZ (hw _ (List.mem_of_getElem? (i := 4) rfl))) (by decide) (backOf (W := 2) (rmP l Z a0 hw [] p0 j1 (6 : Int32) h39 n0 Z39) hZ (hw _ (List.mem_of_getElem? (i := 4) rfl)) (hw _ (List.mem_of_getElem? (i := 3) rfl)) (by decide) (by decide)) (g := (mkF m 74 #[.val (.int p0), .val (.long j1), .second, .val (.int p2), .val (.int p3), .val (.ref b), .unset, .unset, .unset] [(.int (6 : Int32)), (.long j1), (.int p0), (.int (6 : Int32)), (.ref b)])) rfl (by rw [hml]; rfl) (argsL := [(.int p0), (.long j1), (.int (6 : Int32))]) (rest := [(.int (6 : Int32)), (.ref b)]) (lenOf pd_0 rfl) rfl (by show 2 * 0 + _ ≤ _; exact Nat.le_of_eq rfl) (hb hby at_74) (fun _ _ => ⟨rfl, e39, (by decide : 1 + 0 ≤ _), (by decide : 8 + 0 ≤ _)⟩)
  dsimp only [Pt.U, Pt.locs, Pt.cells, Pt.slots] at X42 l42 y42 z42 st42 hQ42
  subst l42 y42 z42
  obtain ⟨rfl, N42q, e42⟩ := hQ42
  have N42 := Fr.app N39 N42q
  have q43 : Steps p.tables e below (s₁.setTop (entryFrame m #[(.int p0), (.long j1), (.int p2), (.int p3)] maxLocals)) (T42.setTop (mkF m 77 #[.val (.int p0), .val (.long j1), .second, .val (.int p2), .val (.int p3), .val (.ref b), .unset, .unset, .unset] [(.int (Fp p0 j1 (6 : Int32))), (.int (6 : Int32)), (.ref b)])) := q41.trans (st42 _ (Steps.refl _))
  obtain ⟨y44, hy44, hM⟩ := Option.bind_eq_some_iff.mp hM
  obtain ⟨T45, h45, X45, e45, W45, J45, st45⟩ := Own.stBO X42 hx hZ e42 J39 hy44 (g := (mkF m 77 #[.val (.int p0), .val (.long j1), .second, .val (.int p2), .val (.int p3), .val (.ref b), .unset, .unset, .unset] [(.int (Fp p0 j1 (6 : Int32))), (.int (6 : Int32)), (.ref b)])) rfl rfl (hb hby at_77)
  have N45 := Fr.snoc X45 N42 ge_b
  have Iw_HEAD_END_45 := Iw_HEAD_END_39.other W45 ne_w_HEAD_END_b
  have SHEAD_END_45 := SHEAD_END_39.wr W45
  have Z45 : n0 ≤ h45.size := Own.size_wr W45 Z39
  have q46 : Steps p.tables e below (s₁.setTop (entryFrame m #[(.int p0), (.long j1), (.int p2), (.int p3)] maxLocals)) (T45.setTop (mkF m 78 #[.val (.int p0), .val (.long j1), .second, .val (.int p2), .val (.int p3), .val (.ref b), .unset, .unset, .unset] [])) := q43.trans (st45 _ (Steps.refl _))
  have q47 : Steps p.tables e below (s₁.setTop (entryFrame m #[(.int p0), (.long j1), (.int p2), (.int p3)] maxLocals)) (T45.setTop (mkF m 86 #[.val (.int p0), .val (.long j1), .second, .val (.int p2), .val (.int p3), .val (.ref b), .unset, .unset, .unset] [(.int (7 : Int32)), (.long j1), (.int p0), (.int (7 : Int32)), (.ref b)])) := q46.trans (by
      show Steps p.tables e below (T45.setTop (mkF m 78 #[.val (.int p0), .val (.long j1), .second, .val (.int p2), .val (.int p3), .val (.ref b), .unset, .unset, .unset] [])) _
      refine XS.aload X45.here hx rfl (hb hby at_78) rfl rfl ?_
      show Steps p.tables e below (T45.setTop (mkF m 80 #[.val (.int p0), .val (.long j1), .second, .val (.int p2), .val (.int p3), .val (.ref b), .unset, .unset, .unset] [(.ref b)])) _
      refine XS.bipush X45.here hx rfl (hb hby at_80) ?_
      show Steps p.tables e below (T45.setTop (mkF m 82 #[.val (.int p0), .val (.long j1), .second, .val (.int p2), .val (.int p3), .val (.ref b), .unset, .unset, .unset] [(.int (7 : Int32)), (.ref b)])) _
      refine XS.iloadN X45.here hx rfl (hb hby at_82) rfl ?_
      show Steps p.tables e below (T45.setTop (mkF m 83 #[.val (.int p0), .val (.long j1), .second, .val (.int p2), .val (.int p3), .val (.ref b), .unset, .unset, .unset] [(.int p0), (.int (7 : Int32)), (.ref b)])) _
      refine XS.lloadN X45.here hx rfl (hb hby at_83) rfl ?_
      show Steps p.tables e below (T45.setTop (mkF m 84 #[.val (.int p0), .val (.long j1), .second, .val (.int p2), .val (.int p3), .val (.ref b), .unset, .unset, .unset] [(.long j1), (.int p0), (.int (7 : Int32)), (.ref b)])) _
      refine XS.bipush X45.here hx rfl (hb hby at_84) ?_
      show Steps p.tables e below (T45.setTop (mkF m 86 #[.val (.int p0), .val (.long j1), .second, .val (.int p2), .val (.int p3), .val (.ref b), .unset, .unset, .unset] [(.int (7 : Int32)), (.long j1), (.int p0), (.int (7 : Int32)), (.ref b)])) _
      exact Steps.refl _)
  obtain ⟨_, _, ⟨T48, L48, k48, n48⟩, -, X48, ⟨Lc48, hQ48, l48, y48, z48⟩, st48⟩ := Jvm.LawKit.callS X45 hx (y := (⟨"com/example/lettr/lettr/bench/OpeningHeadEndPinLaw", "pick", "(IJI)B"⟩ : MethodName)) hown (mvT hZ (hw _ (List.mem_of_getElem? (i := 1) rfl))) (mvT hZ (hw _ (List.mem_of_getElem? (i := 2) rfl))) (mvT hZ (hw _ (List.mem_of_getElem? (i := 3) rfl))) (mvT hZ (hw _ (List.mem_of_getElem? (i := 4) rfl))) (by decide) (backOf (W := 2) (rmP l Z a0 hw [] p0 j1 (7 : Int32) h45 n0 Z45) hZ (hw _ (List.mem_of_getElem? (i := 4) rfl)) (hw _ (List.mem_of_getElem? (i := 3) rfl)) (by decide) (by decide)) (g := (mkF m 86 #[.val (.int p0), .val (.long j1), .second, .val (.int p2), .val (.int p3), .val (.ref b), .unset, .unset, .unset] [(.int (7 : Int32)), (.long j1), (.int p0), (.int (7 : Int32)), (.ref b)])) rfl (by rw [hml]; rfl) (argsL := [(.int p0), (.long j1), (.int (7 : Int32))]) (rest := [(.int (7 : Int32)), (.ref b)]) (lenOf pd_0 rfl) rfl (by show 2 * 0 + _ ≤ _; exact Nat.le_of_eq rfl) (hb hby at_86) (fun _ _ => ⟨rfl, e45, (by decide : 1 + 0 ≤ _), (by decide : 8 + 0 ≤ _)⟩)
  dsimp only [Pt.U, Pt.locs, Pt.cells, Pt.slots] at X48 l48 y48 z48 st48 hQ48
  subst l48 y48 z48
  obtain ⟨rfl, N48q, e48⟩ := hQ48
  have N48 := Fr.app N45 N48q
  have q49 : Steps p.tables e below (s₁.setTop (entryFrame m #[(.int p0), (.long j1), (.int p2), (.int p3)] maxLocals)) (T48.setTop (mkF m 89 #[.val (.int p0), .val (.long j1), .second, .val (.int p2), .val (.int p3), .val (.ref b), .unset, .unset, .unset] [(.int (Fp p0 j1 (7 : Int32))), (.int (7 : Int32)), (.ref b)])) := q47.trans (st48 _ (Steps.refl _))
  obtain ⟨y50, hy50, hM⟩ := Option.bind_eq_some_iff.mp hM
  obtain ⟨T51, h51, X51, e51, W51, J51, st51⟩ := Own.stBO X48 hx hZ e48 J45 hy50 (g := (mkF m 89 #[.val (.int p0), .val (.long j1), .second, .val (.int p2), .val (.int p3), .val (.ref b), .unset, .unset, .unset] [(.int (Fp p0 j1 (7 : Int32))), (.int (7 : Int32)), (.ref b)])) rfl rfl (hb hby at_89)
  have N51 := Fr.snoc X51 N48 ge_b
  have Iw_HEAD_END_51 := Iw_HEAD_END_45.other W51 ne_w_HEAD_END_b
  have SHEAD_END_51 := SHEAD_END_45.wr W51
  have Z51 : n0 ≤ h51.size := Own.size_wr W51 Z45
  have q52 : Steps p.tables e below (s₁.setTop (entryFrame m #[(.int p0), (.long j1), (.int p2), (.int p3)] maxLocals)) (T51.setTop (mkF m 90 #[.val (.int p0), .val (.long j1), .second, .val (.int p2), .val (.int p3), .val (.ref b), .unset, .unset, .unset] [])) := q49.trans (st51 _ (Steps.refl _))
  have q53 : Steps p.tables e below (s₁.setTop (entryFrame m #[(.int p0), (.long j1), (.int p2), (.int p3)] maxLocals)) (T51.setTop (mkF m 99 #[.val (.int p0), .val (.long j1), .second, .val (.int p2), .val (.int p3), .val (.ref b), .val (.int ((p2 &&& (2147483647 : Int32)) - ((p2 &&& (2147483647 : Int32)) / (9 : Int32)) * (9 : Int32))), .unset, .unset] [])) := q52.trans (by
      show Steps p.tables e below (T51.setTop (mkF m 90 #[.val (.int p0), .val (.long j1), .second, .val (.int p2), .val (.int p3), .val (.ref b), .unset, .unset, .unset] [])) _
      refine XS.iloadN X51.here hx rfl (hb hby at_90) rfl ?_
      show Steps p.tables e below (T51.setTop (mkF m 91 #[.val (.int p0), .val (.long j1), .second, .val (.int p2), .val (.int p3), .val (.ref b), .unset, .unset, .unset] [(.int p2)])) _
      refine X51.ldcInt hx hown (mvT hZ (hw _ (List.mem_of_getElem? (i := 5) rfl))) (g := (mkF m 91 #[.val (.int p0), .val (.long j1), .second, .val (.int p2), .val (.int p3), .val (.ref b), .unset, .unset, .unset] [(.int p2)])) rfl (hb hby at_91) _ ?_
      show Steps p.tables e below (T51.setTop (mkF m 93 #[.val (.int p0), .val (.long j1), .second, .val (.int p2), .val (.int p3), .val (.ref b), .unset, .unset, .unset] [(.int (2147483647 : Int32)), (.int p2)])) _
      refine XS.iand X51.here hx rfl (hb hby at_93) rfl ?_
      show Steps p.tables e below (T51.setTop (mkF m 94 #[.val (.int p0), .val (.long j1), .second, .val (.int p2), .val (.int p3), .val (.ref b), .unset, .unset, .unset] [(.int (p2 &&& (2147483647 : Int32)))])) _
      refine XS.bipush X51.here hx rfl (hb hby at_94) ?_
      show Steps p.tables e below (T51.setTop (mkF m 96 #[.val (.int p0), .val (.long j1), .second, .val (.int p2), .val (.int p3), .val (.ref b), .unset, .unset, .unset] [(.int (9 : Int32)), (.int (p2 &&& (2147483647 : Int32)))])) _
      refine XS.irem X51.here hx rfl (hb hby at_96) rfl (by decide) ?_
      show Steps p.tables e below (T51.setTop (mkF m 97 #[.val (.int p0), .val (.long j1), .second, .val (.int p2), .val (.int p3), .val (.ref b), .unset, .unset, .unset] [(.int ((p2 &&& (2147483647 : Int32)) - ((p2 &&& (2147483647 : Int32)) / (9 : Int32)) * (9 : Int32)))])) _
      refine XS.istore X51.here hx rfl (hb hby at_97) rfl (l' := #[.val (.int p0), .val (.long j1), .second, .val (.int p2), .val (.int p3), .val (.ref b), .val (.int ((p2 &&& (2147483647 : Int32)) - ((p2 &&& (2147483647 : Int32)) / (9 : Int32)) * (9 : Int32))), .unset, .unset]) rfl ?_
      show Steps p.tables e below (T51.setTop (mkF m 99 #[.val (.int p0), .val (.long j1), .second, .val (.int p2), .val (.int p3), .val (.ref b), .val (.int ((p2 &&& (2147483647 : Int32)) - ((p2 &&& (2147483647 : Int32)) / (9 : Int32)) * (9 : Int32))), .unset, .unset] [])) _
      exact Steps.refl _)
  obtain ⟨fr, hfr, hM⟩ := Option.bind_eq_some_iff.mp hM
  have hfr := (Option.some.inj hfr).symm
  rw [← hfr] at q53
  have q54 : Steps p.tables e below (s₁.setTop (entryFrame m #[(.int p0), (.long j1), (.int p2), (.int p3)] maxLocals)) (T51.setTop (mkF m 109 #[.val (.int p0), .val (.long j1), .second, .val (.int p2), .val (.int p3), .val (.ref b), .val (.int fr), .val (.int ((p3 &&& (2147483647 : Int32)) - ((p3 &&& (2147483647 : Int32)) / (9 : Int32)) * (9 : Int32))), .unset] [])) := q53.trans (by
      show Steps p.tables e below (T51.setTop (mkF m 99 #[.val (.int p0), .val (.long j1), .second, .val (.int p2), .val (.int p3), .val (.ref b), .val (.int fr), .unset, .unset] [])) _
      refine XS.iload X51.here hx rfl (hb hby at_99) rfl ?_
      show Steps p.tables e below (T51.setTop (mkF m 101 #[.val (.int p0), .val (.long j1), .second, .val (.int p2), .val (.int p3), .val (.ref b), .val (.int fr), .unset, .unset] [(.int p3)])) _
      refine X51.ldcInt hx hown (mvT hZ (hw _ (List.mem_of_getElem? (i := 5) rfl))) (g := (mkF m 101 #[.val (.int p0), .val (.long j1), .second, .val (.int p2), .val (.int p3), .val (.ref b), .val (.int fr), .unset, .unset] [(.int p3)])) rfl (hb hby at_101) _ ?_
      show Steps p.tables e below (T51.setTop (mkF m 103 #[.val (.int p0), .val (.long j1), .second, .val (.int p2), .val (.int p3), .val (.ref b), .val (.int fr), .unset, .unset] [(.int (2147483647 : Int32)), (.int p3)])) _
      refine XS.iand X51.here hx rfl (hb hby at_103) rfl ?_
      show Steps p.tables e below (T51.setTop (mkF m 104 #[.val (.int p0), .val (.long j1), .second, .val (.int p2), .val (.int p3), .val (.ref b), .val (.int fr), .unset, .unset] [(.int (p3 &&& (2147483647 : Int32)))])) _
      refine XS.bipush X51.here hx rfl (hb hby at_104) ?_
      show Steps p.tables e below (T51.setTop (mkF m 106 #[.val (.int p0), .val (.long j1), .second, .val (.int p2), .val (.int p3), .val (.ref b), .val (.int fr), .unset, .unset] [(.int (9 : Int32)), (.int (p3 &&& (2147483647 : Int32)))])) _
      refine XS.irem X51.here hx rfl (hb hby at_106) rfl (by decide) ?_
      show Steps p.tables e below (T51.setTop (mkF m 107 #[.val (.int p0), .val (.long j1), .second, .val (.int p2), .val (.int p3), .val (.ref b), .val (.int fr), .unset, .unset] [(.int ((p3 &&& (2147483647 : Int32)) - ((p3 &&& (2147483647 : Int32)) / (9 : Int32)) * (9 : Int32)))])) _
      refine XS.istore X51.here hx rfl (hb hby at_107) rfl (l' := #[.val (.int p0), .val (.long j1), .second, .val (.int p2), .val (.int p3), .val (.ref b), .val (.int fr), .val (.int ((p3 &&& (2147483647 : Int32)) - ((p3 &&& (2147483647 : Int32)) / (9 : Int32)) * (9 : Int32))), .unset]) rfl ?_
      show Steps p.tables e below (T51.setTop (mkF m 109 #[.val (.int p0), .val (.long j1), .second, .val (.int p2), .val (.int p3), .val (.ref b), .val (.int fr), .val (.int ((p3 &&& (2147483647 : Int32)) - ((p3 &&& (2147483647 : Int32)) / (9 : Int32)) * (9 : Int32))), .unset] [])) _
      exact Steps.refl _)
  obtain ⟨to, hto, hM⟩ := Option.bind_eq_some_iff.mp hM
  have hto := (Option.some.inj hto).symm
  rw [← hto] at q54
  unfold M_core at hM
  have q55 : Steps p.tables e below (s₁.setTop (entryFrame m #[(.int p0), (.long j1), (.int p2), (.int p3)] maxLocals)) (T51.setTop (mkF m 116 #[.val (.int p0), .val (.long j1), .second, .val (.int p2), .val (.int p3), .val (.ref b), .val (.int fr), .val (.int to), .unset] [(.int (0 : Int32)), (.int to), (.int fr), (.ref b)])) := q54.trans (by
      show Steps p.tables e below (T51.setTop (mkF m 109 #[.val (.int p0), .val (.long j1), .second, .val (.int p2), .val (.int p3), .val (.ref b), .val (.int fr), .val (.int to), .unset] [])) _
      refine XS.aload X51.here hx rfl (hb hby at_109) rfl rfl ?_
      show Steps p.tables e below (T51.setTop (mkF m 111 #[.val (.int p0), .val (.long j1), .second, .val (.int p2), .val (.int p3), .val (.ref b), .val (.int fr), .val (.int to), .unset] [(.ref b)])) _
      refine XS.iload X51.here hx rfl (hb hby at_111) rfl ?_
      show Steps p.tables e below (T51.setTop (mkF m 113 #[.val (.int p0), .val (.long j1), .second, .val (.int p2), .val (.int p3), .val (.ref b), .val (.int fr), .val (.int to), .unset] [(.int fr), (.ref b)])) _
      refine XS.iload X51.here hx rfl (hb hby at_113) rfl ?_
      show Steps p.tables e below (T51.setTop (mkF m 115 #[.val (.int p0), .val (.long j1), .second, .val (.int p2), .val (.int p3), .val (.ref b), .val (.int fr), .val (.int to), .unset] [(.int to), (.int fr), (.ref b)])) _
      refine XS.iconst X51.here hx rfl (hb hby at_115) ?_
      show Steps p.tables e below (T51.setTop (mkF m 116 #[.val (.int p0), .val (.long j1), .second, .val (.int p2), .val (.int p3), .val (.ref b), .val (.int fr), .val (.int to), .unset] [(.int (0 : Int32)), (.int to), (.int fr), (.ref b)])) _
      exact Steps.refl _)
  obtain ⟨r56, hr56, hM⟩ := Option.bind_eq_some_iff.mp hM
  obtain ⟨_, _, ⟨T57, L57, k57, n57⟩, -, X57, ⟨Lc57, hQ57, l57, y57, z57⟩, st57⟩ := Jvm.LawKit.callS X51 hx (y := (⟨"com/example/lettr/lettr/bench/OpeningHeadEndPinLaw", "hit", "([BIII)Z"⟩ : MethodName)) hown (mvT hZ (hw _ (List.mem_of_getElem? (i := 6) rfl))) (mvT hZ (hw _ (List.mem_of_getElem? (i := 7) rfl))) (mvT hZ (hw _ (List.mem_of_getElem? (i := 3) rfl))) (mvT hZ (hw _ (List.mem_of_getElem? (i := 8) rfl))) (by decide) (backOf (W := 0) (rmH l Z a0 hw [] b fr to (0 : Int32) y50 r56 h51 n0 Z51 J51 hr56) hZ (hw _ (List.mem_of_getElem? (i := 8) rfl)) (hw _ (List.mem_of_getElem? (i := 3) rfl)) (by decide) (by decide)) (g := (mkF m 116 #[.val (.int p0), .val (.long j1), .second, .val (.int p2), .val (.int p3), .val (.ref b), .val (.int fr), .val (.int to), .unset] [(.int (0 : Int32)), (.int to), (.int fr), (.ref b)])) rfl (by rw [hml]; rfl) (argsL := [(.ref b), (.int fr), (.int to), (.int (0 : Int32))]) (rest := []) (lenOf pd_1 rfl) rfl (by show 2 * 0 + _ ≤ _; exact Nat.le_of_eq rfl) (hb hby at_116) (fun _ _ => ⟨rfl, e51, (by decide : 1 + 0 ≤ _), (by decide : 8 + 0 ≤ _)⟩)
  dsimp only [Pt.U, Pt.locs, Pt.cells, Pt.slots] at X57 l57 y57 z57 st57 hQ57
  subst l57 y57 z57
  obtain ⟨rfl, N57q, e57⟩ := hQ57
  have N57 := Fr.app N51 N57q
  have q58 : Steps p.tables e below (s₁.setTop (entryFrame m #[(.int p0), (.long j1), (.int p2), (.int p3)] maxLocals)) (T57.setTop (mkF m 119 #[.val (.int p0), .val (.long j1), .second, .val (.int p2), .val (.int p3), .val (.ref b), .val (.int fr), .val (.int to), .unset] [(.int r56)])) := q55.trans (st57 _ (Steps.refl _))
  by_cases hc60 : r56 = (0 : Int32)
  · rw [if_pos hc60] at hM
    have q61 : Steps p.tables e below (s₁.setTop (entryFrame m #[(.int p0), (.long j1), (.int p2), (.int p3)] maxLocals)) (T57.setTop (mkF m 128 #[.val (.int p0), .val (.long j1), .second, .val (.int p2), .val (.int p3), .val (.ref b), .val (.int fr), .val (.int to), .unset] [])) := q58.trans (by
        show Steps p.tables e below (T57.setTop (mkF m 119 #[.val (.int p0), .val (.long j1), .second, .val (.int p2), .val (.int p3), .val (.ref b), .val (.int fr), .val (.int to), .unset] [(.int r56)])) _
        refine XS.ifYes X57.here hx rfl (pc0 := 119) (pc' := 128) rfl (hb hby at_119) rfl ((if0 _ _).trans (teq hc60).1) (by decide) (by decide) ?_
        show Steps p.tables e below (T57.setTop (mkF m 128 #[.val (.int p0), .val (.long j1), .second, .val (.int p2), .val (.int p3), .val (.ref b), .val (.int fr), .val (.int to), .unset] [])) _
        exact Steps.refl _)
    have q62 : Steps p.tables e below (s₁.setTop (entryFrame m #[(.int p0), (.long j1), (.int p2), (.int p3)] maxLocals)) (T57.setTop (mkF m 135 #[.val (.int p0), .val (.long j1), .second, .val (.int p2), .val (.int p3), .val (.ref b), .val (.int fr), .val (.int to), .unset] [(.int (1 : Int32)), (.int to), (.int fr), (.ref b)])) := q61.trans (by
        show Steps p.tables e below (T57.setTop (mkF m 128 #[.val (.int p0), .val (.long j1), .second, .val (.int p2), .val (.int p3), .val (.ref b), .val (.int fr), .val (.int to), .unset] [])) _
        refine XS.aload X57.here hx rfl (hb hby at_128) rfl rfl ?_
        show Steps p.tables e below (T57.setTop (mkF m 130 #[.val (.int p0), .val (.long j1), .second, .val (.int p2), .val (.int p3), .val (.ref b), .val (.int fr), .val (.int to), .unset] [(.ref b)])) _
        refine XS.iload X57.here hx rfl (hb hby at_130) rfl ?_
        show Steps p.tables e below (T57.setTop (mkF m 132 #[.val (.int p0), .val (.long j1), .second, .val (.int p2), .val (.int p3), .val (.ref b), .val (.int fr), .val (.int to), .unset] [(.int fr), (.ref b)])) _
        refine XS.iload X57.here hx rfl (hb hby at_132) rfl ?_
        show Steps p.tables e below (T57.setTop (mkF m 134 #[.val (.int p0), .val (.long j1), .second, .val (.int p2), .val (.int p3), .val (.ref b), .val (.int fr), .val (.int to), .unset] [(.int to), (.int fr), (.ref b)])) _
        refine XS.iconst X57.here hx rfl (hb hby at_134) ?_
        show Steps p.tables e below (T57.setTop (mkF m 135 #[.val (.int p0), .val (.long j1), .second, .val (.int p2), .val (.int p3), .val (.ref b), .val (.int fr), .val (.int to), .unset] [(.int (1 : Int32)), (.int to), (.int fr), (.ref b)])) _
        exact Steps.refl _)
    obtain ⟨r63, hr63, hM⟩ := Option.bind_eq_some_iff.mp hM
    obtain ⟨_, _, ⟨T64, L64, k64, n64⟩, -, X64, ⟨Lc64, hQ64, l64, y64, z64⟩, st64⟩ := Jvm.LawKit.callS X57 hx (y := (⟨"com/example/lettr/lettr/bench/OpeningHeadEndPinLaw", "hit", "([BIII)Z"⟩ : MethodName)) hown (mvT hZ (hw _ (List.mem_of_getElem? (i := 6) rfl))) (mvT hZ (hw _ (List.mem_of_getElem? (i := 7) rfl))) (mvT hZ (hw _ (List.mem_of_getElem? (i := 3) rfl))) (mvT hZ (hw _ (List.mem_of_getElem? (i := 8) rfl))) (by decide) (backOf (W := 0) (rmH l Z a0 hw [] b fr to (1 : Int32) y50 r63 h51 n0 Z51 J51 hr63) hZ (hw _ (List.mem_of_getElem? (i := 8) rfl)) (hw _ (List.mem_of_getElem? (i := 3) rfl)) (by decide) (by decide)) (g := (mkF m 135 #[.val (.int p0), .val (.long j1), .second, .val (.int p2), .val (.int p3), .val (.ref b), .val (.int fr), .val (.int to), .unset] [(.int (1 : Int32)), (.int to), (.int fr), (.ref b)])) rfl (by rw [hml]; rfl) (argsL := [(.ref b), (.int fr), (.int to), (.int (1 : Int32))]) (rest := []) (lenOf pd_1 rfl) rfl (by show 2 * 0 + _ ≤ _; exact Nat.le_of_eq rfl) (hb hby at_135) (fun _ _ => ⟨rfl, e57, (by decide : 1 + 0 ≤ _), (by decide : 8 + 0 ≤ _)⟩)
    dsimp only [Pt.U, Pt.locs, Pt.cells, Pt.slots] at X64 l64 y64 z64 st64 hQ64
    subst l64 y64 z64
    obtain ⟨rfl, N64q, e64⟩ := hQ64
    have N64 := Fr.app N57 N64q
    have q65 : Steps p.tables e below (s₁.setTop (entryFrame m #[(.int p0), (.long j1), (.int p2), (.int p3)] maxLocals)) (T64.setTop (mkF m 138 #[.val (.int p0), .val (.long j1), .second, .val (.int p2), .val (.int p3), .val (.ref b), .val (.int fr), .val (.int to), .unset] [(.int r63)])) := q62.trans (st64 _ (Steps.refl _))
    by_cases hc67 : r63 = (0 : Int32)
    · rw [if_pos hc67] at hM
      have q68 : Steps p.tables e below (s₁.setTop (entryFrame m #[(.int p0), (.long j1), (.int p2), (.int p3)] maxLocals)) (T64.setTop (mkF m 147 #[.val (.int p0), .val (.long j1), .second, .val (.int p2), .val (.int p3), .val (.ref b), .val (.int fr), .val (.int to), .unset] [])) := q65.trans (by
          show Steps p.tables e below (T64.setTop (mkF m 138 #[.val (.int p0), .val (.long j1), .second, .val (.int p2), .val (.int p3), .val (.ref b), .val (.int fr), .val (.int to), .unset] [(.int r63)])) _
          refine XS.ifYes X64.here hx rfl (pc0 := 138) (pc' := 147) rfl (hb hby at_138) rfl ((if0 _ _).trans (teq hc67).1) (by decide) (by decide) ?_
          show Steps p.tables e below (T64.setTop (mkF m 147 #[.val (.int p0), .val (.long j1), .second, .val (.int p2), .val (.int p3), .val (.ref b), .val (.int fr), .val (.int to), .unset] [])) _
          exact Steps.refl _)
      have q69 : Steps p.tables e below (s₁.setTop (entryFrame m #[(.int p0), (.long j1), (.int p2), (.int p3)] maxLocals)) (T64.setTop (mkF m 154 #[.val (.int p0), .val (.long j1), .second, .val (.int p2), .val (.int p3), .val (.ref b), .val (.int fr), .val (.int to), .unset] [(.int (2 : Int32)), (.int to), (.int fr), (.ref b)])) := q68.trans (by
          show Steps p.tables e below (T64.setTop (mkF m 147 #[.val (.int p0), .val (.long j1), .second, .val (.int p2), .val (.int p3), .val (.ref b), .val (.int fr), .val (.int to), .unset] [])) _
          refine XS.aload X64.here hx rfl (hb hby at_147) rfl rfl ?_
          show Steps p.tables e below (T64.setTop (mkF m 149 #[.val (.int p0), .val (.long j1), .second, .val (.int p2), .val (.int p3), .val (.ref b), .val (.int fr), .val (.int to), .unset] [(.ref b)])) _
          refine XS.iload X64.here hx rfl (hb hby at_149) rfl ?_
          show Steps p.tables e below (T64.setTop (mkF m 151 #[.val (.int p0), .val (.long j1), .second, .val (.int p2), .val (.int p3), .val (.ref b), .val (.int fr), .val (.int to), .unset] [(.int fr), (.ref b)])) _
          refine XS.iload X64.here hx rfl (hb hby at_151) rfl ?_
          show Steps p.tables e below (T64.setTop (mkF m 153 #[.val (.int p0), .val (.long j1), .second, .val (.int p2), .val (.int p3), .val (.ref b), .val (.int fr), .val (.int to), .unset] [(.int to), (.int fr), (.ref b)])) _
          refine XS.iconst X64.here hx rfl (hb hby at_153) ?_
          show Steps p.tables e below (T64.setTop (mkF m 154 #[.val (.int p0), .val (.long j1), .second, .val (.int p2), .val (.int p3), .val (.ref b), .val (.int fr), .val (.int to), .unset] [(.int (2 : Int32)), (.int to), (.int fr), (.ref b)])) _
          exact Steps.refl _)
      obtain ⟨r70, hr70, hM⟩ := Option.bind_eq_some_iff.mp hM
      obtain ⟨_, _, ⟨T71, L71, k71, n71⟩, -, X71, ⟨Lc71, hQ71, l71, y71, z71⟩, st71⟩ := Jvm.LawKit.callS X64 hx (y := (⟨"com/example/lettr/lettr/bench/OpeningHeadEndPinLaw", "hit", "([BIII)Z"⟩ : MethodName)) hown (mvT hZ (hw _ (List.mem_of_getElem? (i := 6) rfl))) (mvT hZ (hw _ (List.mem_of_getElem? (i := 7) rfl))) (mvT hZ (hw _ (List.mem_of_getElem? (i := 3) rfl))) (mvT hZ (hw _ (List.mem_of_getElem? (i := 8) rfl))) (by decide) (backOf (W := 0) (rmH l Z a0 hw [] b fr to (2 : Int32) y50 r70 h51 n0 Z51 J51 hr70) hZ (hw _ (List.mem_of_getElem? (i := 8) rfl)) (hw _ (List.mem_of_getElem? (i := 3) rfl)) (by decide) (by decide)) (g := (mkF m 154 #[.val (.int p0), .val (.long j1), .second, .val (.int p2), .val (.int p3), .val (.ref b), .val (.int fr), .val (.int to), .unset] [(.int (2 : Int32)), (.int to), (.int fr), (.ref b)])) rfl (by rw [hml]; rfl) (argsL := [(.ref b), (.int fr), (.int to), (.int (2 : Int32))]) (rest := []) (lenOf pd_1 rfl) rfl (by show 2 * 0 + _ ≤ _; exact Nat.le_of_eq rfl) (hb hby at_154) (fun _ _ => ⟨rfl, e64, (by decide : 1 + 0 ≤ _), (by decide : 8 + 0 ≤ _)⟩)
      dsimp only [Pt.U, Pt.locs, Pt.cells, Pt.slots] at X71 l71 y71 z71 st71 hQ71
      subst l71 y71 z71
      obtain ⟨rfl, N71q, e71⟩ := hQ71
      have N71 := Fr.app N64 N71q
      have q72 : Steps p.tables e below (s₁.setTop (entryFrame m #[(.int p0), (.long j1), (.int p2), (.int p3)] maxLocals)) (T71.setTop (mkF m 157 #[.val (.int p0), .val (.long j1), .second, .val (.int p2), .val (.int p3), .val (.ref b), .val (.int fr), .val (.int to), .unset] [(.int r70)])) := q69.trans (st71 _ (Steps.refl _))
      by_cases hc74 : r70 = (0 : Int32)
      · rw [if_pos hc74] at hM
        have q75 : Steps p.tables e below (s₁.setTop (entryFrame m #[(.int p0), (.long j1), (.int p2), (.int p3)] maxLocals)) (T71.setTop (mkF m 167 #[.val (.int p0), .val (.long j1), .second, .val (.int p2), .val (.int p3), .val (.ref b), .val (.int fr), .val (.int to), .unset] [])) := q72.trans (by
            show Steps p.tables e below (T71.setTop (mkF m 157 #[.val (.int p0), .val (.long j1), .second, .val (.int p2), .val (.int p3), .val (.ref b), .val (.int fr), .val (.int to), .unset] [(.int r70)])) _
            refine XS.ifYes X71.here hx rfl (pc0 := 157) (pc' := 167) rfl (hb hby at_157) rfl ((if0 _ _).trans (teq hc74).1) (by decide) (by decide) ?_
            show Steps p.tables e below (T71.setTop (mkF m 167 #[.val (.int p0), .val (.long j1), .second, .val (.int p2), .val (.int p3), .val (.ref b), .val (.int fr), .val (.int to), .unset] [])) _
            exact Steps.refl _)
        have q76 : Steps p.tables e below (s₁.setTop (entryFrame m #[(.int p0), (.long j1), (.int p2), (.int p3)] maxLocals)) (T71.setTop (mkF m 174 #[.val (.int p0), .val (.long j1), .second, .val (.int p2), .val (.int p3), .val (.ref b), .val (.int fr), .val (.int to), .unset] [(.int (3 : Int32)), (.int to), (.int fr), (.ref b)])) := q75.trans (by
            show Steps p.tables e below (T71.setTop (mkF m 167 #[.val (.int p0), .val (.long j1), .second, .val (.int p2), .val (.int p3), .val (.ref b), .val (.int fr), .val (.int to), .unset] [])) _
            refine XS.aload X71.here hx rfl (hb hby at_167) rfl rfl ?_
            show Steps p.tables e below (T71.setTop (mkF m 169 #[.val (.int p0), .val (.long j1), .second, .val (.int p2), .val (.int p3), .val (.ref b), .val (.int fr), .val (.int to), .unset] [(.ref b)])) _
            refine XS.iload X71.here hx rfl (hb hby at_169) rfl ?_
            show Steps p.tables e below (T71.setTop (mkF m 171 #[.val (.int p0), .val (.long j1), .second, .val (.int p2), .val (.int p3), .val (.ref b), .val (.int fr), .val (.int to), .unset] [(.int fr), (.ref b)])) _
            refine XS.iload X71.here hx rfl (hb hby at_171) rfl ?_
            show Steps p.tables e below (T71.setTop (mkF m 173 #[.val (.int p0), .val (.long j1), .second, .val (.int p2), .val (.int p3), .val (.ref b), .val (.int fr), .val (.int to), .unset] [(.int to), (.int fr), (.ref b)])) _
            refine XS.iconst X71.here hx rfl (hb hby at_173) ?_
            show Steps p.tables e below (T71.setTop (mkF m 174 #[.val (.int p0), .val (.long j1), .second, .val (.int p2), .val (.int p3), .val (.ref b), .val (.int fr), .val (.int to), .unset] [(.int (3 : Int32)), (.int to), (.int fr), (.ref b)])) _
            exact Steps.refl _)
        obtain ⟨r77, hr77, hM⟩ := Option.bind_eq_some_iff.mp hM
        obtain ⟨_, _, ⟨T78, L78, k78, n78⟩, -, X78, ⟨Lc78, hQ78, l78, y78, z78⟩, st78⟩ := Jvm.LawKit.callS X71 hx (y := (⟨"com/example/lettr/lettr/bench/OpeningHeadEndPinLaw", "hit", "([BIII)Z"⟩ : MethodName)) hown (mvT hZ (hw _ (List.mem_of_getElem? (i := 6) rfl))) (mvT hZ (hw _ (List.mem_of_getElem? (i := 7) rfl))) (mvT hZ (hw _ (List.mem_of_getElem? (i := 3) rfl))) (mvT hZ (hw _ (List.mem_of_getElem? (i := 8) rfl))) (by decide) (backOf (W := 0) (rmH l Z a0 hw [] b fr to (3 : Int32) y50 r77 h51 n0 Z51 J51 hr77) hZ (hw _ (List.mem_of_getElem? (i := 8) rfl)) (hw _ (List.mem_of_getElem? (i := 3) rfl)) (by decide) (by decide)) (g := (mkF m 174 #[.val (.int p0), .val (.long j1), .second, .val (.int p2), .val (.int p3), .val (.ref b), .val (.int fr), .val (.int to), .unset] [(.int (3 : Int32)), (.int to), (.int fr), (.ref b)])) rfl (by rw [hml]; rfl) (argsL := [(.ref b), (.int fr), (.int to), (.int (3 : Int32))]) (rest := []) (lenOf pd_1 rfl) rfl (by show 2 * 0 + _ ≤ _; exact Nat.le_of_eq rfl) (hb hby at_174) (fun _ _ => ⟨rfl, e71, (by decide : 1 + 0 ≤ _), (by decide : 8 + 0 ≤ _)⟩)
        dsimp only [Pt.U, Pt.locs, Pt.cells, Pt.slots] at X78 l78 y78 z78 st78 hQ78
        subst l78 y78 z78
        obtain ⟨rfl, N78q, e78⟩ := hQ78
        have N78 := Fr.app N71 N78q
        have q79 : Steps p.tables e below (s₁.setTop (entryFrame m #[(.int p0), (.long j1), (.int p2), (.int p3)] maxLocals)) (T78.setTop (mkF m 177 #[.val (.int p0), .val (.long j1), .second, .val (.int p2), .val (.int p3), .val (.ref b), .val (.int fr), .val (.int to), .unset] [(.int r77)])) := q76.trans (st78 _ (Steps.refl _))
        by_cases hc81 : r77 = (0 : Int32)
        · rw [if_pos hc81] at hM
          have q82 : Steps p.tables e below (s₁.setTop (entryFrame m #[(.int p0), (.long j1), (.int p2), (.int p3)] maxLocals)) (T78.setTop (mkF m 187 #[.val (.int p0), .val (.long j1), .second, .val (.int p2), .val (.int p3), .val (.ref b), .val (.int fr), .val (.int to), .unset] [])) := q79.trans (by
              show Steps p.tables e below (T78.setTop (mkF m 177 #[.val (.int p0), .val (.long j1), .second, .val (.int p2), .val (.int p3), .val (.ref b), .val (.int fr), .val (.int to), .unset] [(.int r77)])) _
              refine XS.ifYes X78.here hx rfl (pc0 := 177) (pc' := 187) rfl (hb hby at_177) rfl ((if0 _ _).trans (teq hc81).1) (by decide) (by decide) ?_
              show Steps p.tables e below (T78.setTop (mkF m 187 #[.val (.int p0), .val (.long j1), .second, .val (.int p2), .val (.int p3), .val (.ref b), .val (.int fr), .val (.int to), .unset] [])) _
              exact Steps.refl _)
          have q83 : Steps p.tables e below (s₁.setTop (entryFrame m #[(.int p0), (.long j1), (.int p2), (.int p3)] maxLocals)) (T78.setTop (mkF m 194 #[.val (.int p0), .val (.long j1), .second, .val (.int p2), .val (.int p3), .val (.ref b), .val (.int fr), .val (.int to), .unset] [(.int (4 : Int32)), (.int to), (.int fr), (.ref b)])) := q82.trans (by
              show Steps p.tables e below (T78.setTop (mkF m 187 #[.val (.int p0), .val (.long j1), .second, .val (.int p2), .val (.int p3), .val (.ref b), .val (.int fr), .val (.int to), .unset] [])) _
              refine XS.aload X78.here hx rfl (hb hby at_187) rfl rfl ?_
              show Steps p.tables e below (T78.setTop (mkF m 189 #[.val (.int p0), .val (.long j1), .second, .val (.int p2), .val (.int p3), .val (.ref b), .val (.int fr), .val (.int to), .unset] [(.ref b)])) _
              refine XS.iload X78.here hx rfl (hb hby at_189) rfl ?_
              show Steps p.tables e below (T78.setTop (mkF m 191 #[.val (.int p0), .val (.long j1), .second, .val (.int p2), .val (.int p3), .val (.ref b), .val (.int fr), .val (.int to), .unset] [(.int fr), (.ref b)])) _
              refine XS.iload X78.here hx rfl (hb hby at_191) rfl ?_
              show Steps p.tables e below (T78.setTop (mkF m 193 #[.val (.int p0), .val (.long j1), .second, .val (.int p2), .val (.int p3), .val (.ref b), .val (.int fr), .val (.int to), .unset] [(.int to), (.int fr), (.ref b)])) _
              refine XS.iconst X78.here hx rfl (hb hby at_193) ?_
              show Steps p.tables e below (T78.setTop (mkF m 194 #[.val (.int p0), .val (.long j1), .second, .val (.int p2), .val (.int p3), .val (.ref b), .val (.int fr), .val (.int to), .unset] [(.int (4 : Int32)), (.int to), (.int fr), (.ref b)])) _
              exact Steps.refl _)
          obtain ⟨r84, hr84, hM⟩ := Option.bind_eq_some_iff.mp hM
          obtain ⟨_, _, ⟨T85, L85, k85, n85⟩, -, X85, ⟨Lc85, hQ85, l85, y85, z85⟩, st85⟩ := Jvm.LawKit.callS X78 hx (y := (⟨"com/example/lettr/lettr/bench/OpeningHeadEndPinLaw", "hit", "([BIII)Z"⟩ : MethodName)) hown (mvT hZ (hw _ (List.mem_of_getElem? (i := 6) rfl))) (mvT hZ (hw _ (List.mem_of_getElem? (i := 7) rfl))) (mvT hZ (hw _ (List.mem_of_getElem? (i := 3) rfl))) (mvT hZ (hw _ (List.mem_of_getElem? (i := 8) rfl))) (by decide) (backOf (W := 0) (rmH l Z a0 hw [] b fr to (4 : Int32) y50 r84 h51 n0 Z51 J51 hr84) hZ (hw _ (List.mem_of_getElem? (i := 8) rfl)) (hw _ (List.mem_of_getElem? (i := 3) rfl)) (by decide) (by decide)) (g := (mkF m 194 #[.val (.int p0), .val (.long j1), .second, .val (.int p2), .val (.int p3), .val (.ref b), .val (.int fr), .val (.int to), .unset] [(.int (4 : Int32)), (.int to), (.int fr), (.ref b)])) rfl (by rw [hml]; rfl) (argsL := [(.ref b), (.int fr), (.int to), (.int (4 : Int32))]) (rest := []) (lenOf pd_1 rfl) rfl (by show 2 * 0 + _ ≤ _; exact Nat.le_of_eq rfl) (hb hby at_194) (fun _ _ => ⟨rfl, e78, (by decide : 1 + 0 ≤ _), (by decide : 8 + 0 ≤ _)⟩)
          dsimp only [Pt.U, Pt.locs, Pt.cells, Pt.slots] at X85 l85 y85 z85 st85 hQ85
          subst l85 y85 z85
          obtain ⟨rfl, N85q, e85⟩ := hQ85
          have N85 := Fr.app N78 N85q
          have q86 : Steps p.tables e below (s₁.setTop (entryFrame m #[(.int p0), (.long j1), (.int p2), (.int p3)] maxLocals)) (T85.setTop (mkF m 197 #[.val (.int p0), .val (.long j1), .second, .val (.int p2), .val (.int p3), .val (.ref b), .val (.int fr), .val (.int to), .unset] [(.int r84)])) := q83.trans (st85 _ (Steps.refl _))
          obtain ⟨v88, hv88, hM⟩ := Option.bind_eq_some_iff.mp hM
          have hv88 := (Option.some.inj hv88).symm
          have q89 : Steps p.tables e below (s₁.setTop (entryFrame m #[(.int p0), (.long j1), (.int p2), (.int p3)] maxLocals)) (T85.setTop (mkF m 210 #[.val (.int p0), .val (.long j1), .second, .val (.int p2), .val (.int p3), .val (.ref b), .val (.int fr), .val (.int to), .val (.int v88)] [])) := by
            refine q86.trans ?_
            show Steps p.tables e below (T85.setTop (mkF m 197 #[.val (.int p0), .val (.long j1), .second, .val (.int p2), .val (.int p3), .val (.ref b), .val (.int fr), .val (.int to), .unset] [(.int r84)])) _
            by_cases hc87 : r84 = (0 : Int32)
            · rw [if_pos hc87] at hv88
              refine XS.ifYes X85.here hx rfl (pc0 := 197) (pc' := 207) rfl (hb hby at_197) rfl ((if0 _ _).trans (teq hc87).1) (by decide) (by decide) ?_
              show Steps p.tables e below (T85.setTop (mkF m 207 #[.val (.int p0), .val (.long j1), .second, .val (.int p2), .val (.int p3), .val (.ref b), .val (.int fr), .val (.int to), .unset] [])) _
              refine XS.iconst X85.here hx rfl (hb hby at_207) ?_
              show Steps p.tables e below (T85.setTop (mkF m 208 #[.val (.int p0), .val (.long j1), .second, .val (.int p2), .val (.int p3), .val (.ref b), .val (.int fr), .val (.int to), .unset] [(.int (-1 : Int32))])) _
              refine XS.istore X85.here hx rfl (hb hby at_208) rfl (l' := #[.val (.int p0), .val (.long j1), .second, .val (.int p2), .val (.int p3), .val (.ref b), .val (.int fr), .val (.int to), .val (.int (-1 : Int32))]) rfl ?_
              show Steps p.tables e below (T85.setTop (mkF m 210 #[.val (.int p0), .val (.long j1), .second, .val (.int p2), .val (.int p3), .val (.ref b), .val (.int fr), .val (.int to), .val (.int (-1 : Int32))] [])) _
              rw [hv88]
              exact Steps.refl _
            · rw [if_neg hc87] at hv88
              refine XS.ifNo X85.here hx rfl (hb hby at_197) rfl ((if0 _ _).trans (feq hc87).1) ?_
              show Steps p.tables e below (T85.setTop (mkF m 200 #[.val (.int p0), .val (.long j1), .second, .val (.int p2), .val (.int p3), .val (.ref b), .val (.int fr), .val (.int to), .unset] [])) _
              refine XS.bipush X85.here hx rfl (hb hby at_200) ?_
              show Steps p.tables e below (T85.setTop (mkF m 202 #[.val (.int p0), .val (.long j1), .second, .val (.int p2), .val (.int p3), .val (.ref b), .val (.int fr), .val (.int to), .unset] [(.int (8 : Int32))])) _
              refine XS.istore X85.here hx rfl (hb hby at_202) rfl (l' := #[.val (.int p0), .val (.long j1), .second, .val (.int p2), .val (.int p3), .val (.ref b), .val (.int fr), .val (.int to), .val (.int (8 : Int32))]) rfl ?_
              show Steps p.tables e below (T85.setTop (mkF m 204 #[.val (.int p0), .val (.long j1), .second, .val (.int p2), .val (.int p3), .val (.ref b), .val (.int fr), .val (.int to), .val (.int (8 : Int32))] [])) _
              refine XS.goto X85.here hx rfl (pc0 := 204) (pc' := 210) rfl (hb hby at_204) (by decide) (by decide) ?_
              show Steps p.tables e below (T85.setTop (mkF m 210 #[.val (.int p0), .val (.long j1), .second, .val (.int p2), .val (.int p3), .val (.ref b), .val (.int fr), .val (.int to), .val (.int (8 : Int32))] [])) _
              rw [hv88]
              exact Steps.refl _
          have q90 : Steps p.tables e below (s₁.setTop (entryFrame m #[(.int p0), (.long j1), (.int p2), (.int p3)] maxLocals)) (T85.setTop (mkF m 216 #[.val (.int p0), .val (.long j1), .second, .val (.int p2), .val (.int p3), .val (.ref b), .val (.int fr), .val (.int to), .val (.int v88)] [(.int to), (.int fr), (.ref b)])) := q89.trans (by
              show Steps p.tables e below (T85.setTop (mkF m 210 #[.val (.int p0), .val (.long j1), .second, .val (.int p2), .val (.int p3), .val (.ref b), .val (.int fr), .val (.int to), .val (.int v88)] [])) _
              refine XS.aload X85.here hx rfl (hb hby at_210) rfl rfl ?_
              show Steps p.tables e below (T85.setTop (mkF m 212 #[.val (.int p0), .val (.long j1), .second, .val (.int p2), .val (.int p3), .val (.ref b), .val (.int fr), .val (.int to), .val (.int v88)] [(.ref b)])) _
              refine XS.iload X85.here hx rfl (hb hby at_212) rfl ?_
              show Steps p.tables e below (T85.setTop (mkF m 214 #[.val (.int p0), .val (.long j1), .second, .val (.int p2), .val (.int p3), .val (.ref b), .val (.int fr), .val (.int to), .val (.int v88)] [(.int fr), (.ref b)])) _
              refine XS.iload X85.here hx rfl (hb hby at_214) rfl ?_
              show Steps p.tables e below (T85.setTop (mkF m 216 #[.val (.int p0), .val (.long j1), .second, .val (.int p2), .val (.int p3), .val (.ref b), .val (.int fr), .val (.int to), .val (.int v88)] [(.int to), (.int fr), (.ref b)])) _
              exact Steps.refl _)
          obtain ⟨r91, hr91, hM⟩ := Option.bind_eq_some_iff.mp hM
          obtain ⟨_, _, ⟨T92, L92, k92, n92⟩, -, X92, ⟨Lc92, hQ92, l92, y92, z92⟩, st92⟩ := Jvm.LawKit.callS X85 hx (y := (⟨"com/example/lettr/lettr/bench/Opening", "headEnd", "([BII)I"⟩ : MethodName)) hown (mvT hZ (hw _ (List.mem_of_getElem? (i := 9) rfl))) (mvT hZ (hw _ (List.mem_of_getElem? (i := 10) rfl))) (mvT hZ (hw _ (List.mem_of_getElem? (i := 11) rfl))) (mvT hZ (hw _ (List.mem_of_getElem? (i := 12) rfl))) (by decide) (backOf (W := 0) (rmE l Z a0 hw [] b fr to w_HEAD_END vsH y50 r91 h51 n0 Z51 SHEAD_END_51 Iw_HEAD_END_51 lz J51 hr91) hZ (hw _ (List.mem_of_getElem? (i := 12) rfl)) (hw _ (List.mem_of_getElem? (i := 11) rfl)) (by decide) (by decide)) (g := (mkF m 216 #[.val (.int p0), .val (.long j1), .second, .val (.int p2), .val (.int p3), .val (.ref b), .val (.int fr), .val (.int to), .val (.int v88)] [(.int to), (.int fr), (.ref b)])) rfl (by rw [hml]; rfl) (argsL := [(.ref b), (.int fr), (.int to)]) (rest := []) (lenOf pd_2 rfl) rfl (by show 2 * 0 + _ ≤ _; exact Nat.le_of_eq rfl) (hb hby at_216) (fun _ _ => ⟨rfl, e85, (by decide : 1 + 0 ≤ _), (by decide : 8 + 0 ≤ _)⟩)
          dsimp only [Pt.U, Pt.locs, Pt.cells, Pt.slots] at X92 l92 y92 z92 st92 hQ92
          subst l92 y92 z92
          obtain ⟨rfl, N92q, e92⟩ := hQ92
          have N92 := Fr.app N85 N92q
          have q93 : Steps p.tables e below (s₁.setTop (entryFrame m #[(.int p0), (.long j1), (.int p2), (.int p3)] maxLocals)) (T92.setTop (mkF m 219 #[.val (.int p0), .val (.long j1), .second, .val (.int p2), .val (.int p3), .val (.ref b), .val (.int fr), .val (.int to), .val (.int v88)] [(.int r91)])) := q90.trans (st92 _ (Steps.refl _))
          have q94 : Steps p.tables e below (s₁.setTop (entryFrame m #[(.int p0), (.long j1), (.int p2), (.int p3)] maxLocals)) (T92.setTop (mkF m 221 #[.val (.int p0), .val (.long j1), .second, .val (.int p2), .val (.int p3), .val (.ref b), .val (.int fr), .val (.int to), .val (.int v88)] [(.int v88), (.int r91)])) := q93.trans (by
              show Steps p.tables e below (T92.setTop (mkF m 219 #[.val (.int p0), .val (.long j1), .second, .val (.int p2), .val (.int p3), .val (.ref b), .val (.int fr), .val (.int to), .val (.int v88)] [(.int r91)])) _
              refine XS.iload X92.here hx rfl (hb hby at_219) rfl ?_
              show Steps p.tables e below (T92.setTop (mkF m 221 #[.val (.int p0), .val (.long j1), .second, .val (.int p2), .val (.int p3), .val (.ref b), .val (.int fr), .val (.int to), .val (.int v88)] [(.int v88), (.int r91)])) _
              exact Steps.refl _)
          by_cases hc95 : r91 = v88
          · rw [if_pos hc95] at hM
            have q96 : Steps p.tables e below (s₁.setTop (entryFrame m #[(.int p0), (.long j1), (.int p2), (.int p3)] maxLocals)) (T92.setTop (mkF m 224 #[.val (.int p0), .val (.long j1), .second, .val (.int p2), .val (.int p3), .val (.ref b), .val (.int fr), .val (.int to), .val (.int v88)] [])) := q94.trans (by
                show Steps p.tables e below (T92.setTop (mkF m 221 #[.val (.int p0), .val (.long j1), .second, .val (.int p2), .val (.int p3), .val (.ref b), .val (.int fr), .val (.int to), .val (.int v88)] [(.int v88), (.int r91)])) _
                refine XS.icmpNo X92.here hx rfl (hb hby at_221) rfl (teq hc95).2 ?_
                show Steps p.tables e below (T92.setTop (mkF m 224 #[.val (.int p0), .val (.long j1), .second, .val (.int p2), .val (.int p3), .val (.ref b), .val (.int fr), .val (.int to), .val (.int v88)] [])) _
                exact Steps.refl _)
            have q97 : Steps p.tables e below (s₁.setTop (entryFrame m #[(.int p0), (.long j1), (.int p2), (.int p3)] maxLocals)) (T92.setTop (mkF m 229 #[.val (.int p0), .val (.long j1), .second, .val (.int p2), .val (.int p3), .val (.ref b), .val (.int fr), .val (.int to), .val (.int v88)] [(.int (1 : Int32))])) := q96.trans (by
                show Steps p.tables e below (T92.setTop (mkF m 224 #[.val (.int p0), .val (.long j1), .second, .val (.int p2), .val (.int p3), .val (.ref b), .val (.int fr), .val (.int to), .val (.int v88)] [])) _
                refine XS.iconst X92.here hx rfl (hb hby at_224) ?_
                show Steps p.tables e below (T92.setTop (mkF m 225 #[.val (.int p0), .val (.long j1), .second, .val (.int p2), .val (.int p3), .val (.ref b), .val (.int fr), .val (.int to), .val (.int v88)] [(.int (1 : Int32))])) _
                refine XS.goto X92.here hx rfl (pc0 := 225) (pc' := 229) rfl (hb hby at_225) (by decide) (by decide) ?_
                show Steps p.tables e below (T92.setTop (mkF m 229 #[.val (.int p0), .val (.long j1), .second, .val (.int p2), .val (.int p3), .val (.ref b), .val (.int fr), .val (.int to), .val (.int v88)] [(.int (1 : Int32))])) _
                exact Steps.refl _)
            obtain rfl := Option.some.inj hM
            obtain ⟨fs, hr, hrun, hended, hW, hsame⟩ := X92.leave (v := some (.int (1 : Int32))) (fun h => by rw [Bd.returns] at h; cases h)
            refine ⟨_, _, q97.trans ?_, hrun, hended, _, _, rfl, ?_, ⟨_, rfl⟩, hW, hsame.mono (by decide) (by decide)⟩
            · exact retN X92 hx (t := .boolean) Bd.returns (by simp) (hb hby at_229) hr
            · show Q_rm0 Z p0 j1 p2 p3 w_HEAD_END vsH _ h0 n0 _ T92.heap _
              rw [e92]
              exact ⟨rfl, N92⟩
          · rw [if_neg hc95] at hM
            have q98 : Steps p.tables e below (s₁.setTop (entryFrame m #[(.int p0), (.long j1), (.int p2), (.int p3)] maxLocals)) (T92.setTop (mkF m 228 #[.val (.int p0), .val (.long j1), .second, .val (.int p2), .val (.int p3), .val (.ref b), .val (.int fr), .val (.int to), .val (.int v88)] [])) := q94.trans (by
                show Steps p.tables e below (T92.setTop (mkF m 221 #[.val (.int p0), .val (.long j1), .second, .val (.int p2), .val (.int p3), .val (.ref b), .val (.int fr), .val (.int to), .val (.int v88)] [(.int v88), (.int r91)])) _
                refine XS.icmpYes X92.here hx rfl (pc0 := 221) (pc' := 228) rfl (hb hby at_221) rfl (feq hc95).2 (by decide) (by decide) ?_
                show Steps p.tables e below (T92.setTop (mkF m 228 #[.val (.int p0), .val (.long j1), .second, .val (.int p2), .val (.int p3), .val (.ref b), .val (.int fr), .val (.int to), .val (.int v88)] [])) _
                exact Steps.refl _)
            have q99 : Steps p.tables e below (s₁.setTop (entryFrame m #[(.int p0), (.long j1), (.int p2), (.int p3)] maxLocals)) (T92.setTop (mkF m 229 #[.val (.int p0), .val (.long j1), .second, .val (.int p2), .val (.int p3), .val (.ref b), .val (.int fr), .val (.int to), .val (.int v88)] [(.int (0 : Int32))])) := q98.trans (by
                show Steps p.tables e below (T92.setTop (mkF m 228 #[.val (.int p0), .val (.long j1), .second, .val (.int p2), .val (.int p3), .val (.ref b), .val (.int fr), .val (.int to), .val (.int v88)] [])) _
                refine XS.iconst X92.here hx rfl (hb hby at_228) ?_
                show Steps p.tables e below (T92.setTop (mkF m 229 #[.val (.int p0), .val (.long j1), .second, .val (.int p2), .val (.int p3), .val (.ref b), .val (.int fr), .val (.int to), .val (.int v88)] [(.int (0 : Int32))])) _
                exact Steps.refl _)
            obtain rfl := Option.some.inj hM
            obtain ⟨fs, hr, hrun, hended, hW, hsame⟩ := X92.leave (v := some (.int (0 : Int32))) (fun h => by rw [Bd.returns] at h; cases h)
            refine ⟨_, _, q99.trans ?_, hrun, hended, _, _, rfl, ?_, ⟨_, rfl⟩, hW, hsame.mono (by decide) (by decide)⟩
            · exact retN X92 hx (t := .boolean) Bd.returns (by simp) (hb hby at_229) hr
            · show Q_rm0 Z p0 j1 p2 p3 w_HEAD_END vsH _ h0 n0 _ T92.heap _
              rw [e92]
              exact ⟨rfl, N92⟩
        · rw [if_neg hc81] at hM
          have q100 : Steps p.tables e below (s₁.setTop (entryFrame m #[(.int p0), (.long j1), (.int p2), (.int p3)] maxLocals)) (T78.setTop (mkF m 180 #[.val (.int p0), .val (.long j1), .second, .val (.int p2), .val (.int p3), .val (.ref b), .val (.int fr), .val (.int to), .unset] [])) := q79.trans (by
              show Steps p.tables e below (T78.setTop (mkF m 177 #[.val (.int p0), .val (.long j1), .second, .val (.int p2), .val (.int p3), .val (.ref b), .val (.int fr), .val (.int to), .unset] [(.int r77)])) _
              refine XS.ifNo X78.here hx rfl (hb hby at_177) rfl ((if0 _ _).trans (feq hc81).1) ?_
              show Steps p.tables e below (T78.setTop (mkF m 180 #[.val (.int p0), .val (.long j1), .second, .val (.int p2), .val (.int p3), .val (.ref b), .val (.int fr), .val (.int to), .unset] [])) _
              exact Steps.refl _)
          have q101 : Steps p.tables e below (s₁.setTop (entryFrame m #[(.int p0), (.long j1), (.int p2), (.int p3)] maxLocals)) (T78.setTop (mkF m 216 #[.val (.int p0), .val (.long j1), .second, .val (.int p2), .val (.int p3), .val (.ref b), .val (.int fr), .val (.int to), .val (.int (7 : Int32))] [(.int to), (.int fr), (.ref b)])) := q100.trans (by
              show Steps p.tables e below (T78.setTop (mkF m 180 #[.val (.int p0), .val (.long j1), .second, .val (.int p2), .val (.int p3), .val (.ref b), .val (.int fr), .val (.int to), .unset] [])) _
              refine XS.bipush X78.here hx rfl (hb hby at_180) ?_
              show Steps p.tables e below (T78.setTop (mkF m 182 #[.val (.int p0), .val (.long j1), .second, .val (.int p2), .val (.int p3), .val (.ref b), .val (.int fr), .val (.int to), .unset] [(.int (7 : Int32))])) _
              refine XS.istore X78.here hx rfl (hb hby at_182) rfl (l' := #[.val (.int p0), .val (.long j1), .second, .val (.int p2), .val (.int p3), .val (.ref b), .val (.int fr), .val (.int to), .val (.int (7 : Int32))]) rfl ?_
              show Steps p.tables e below (T78.setTop (mkF m 184 #[.val (.int p0), .val (.long j1), .second, .val (.int p2), .val (.int p3), .val (.ref b), .val (.int fr), .val (.int to), .val (.int (7 : Int32))] [])) _
              refine XS.goto X78.here hx rfl (pc0 := 184) (pc' := 210) rfl (hb hby at_184) (by decide) (by decide) ?_
              show Steps p.tables e below (T78.setTop (mkF m 210 #[.val (.int p0), .val (.long j1), .second, .val (.int p2), .val (.int p3), .val (.ref b), .val (.int fr), .val (.int to), .val (.int (7 : Int32))] [])) _
              refine XS.aload X78.here hx rfl (hb hby at_210) rfl rfl ?_
              show Steps p.tables e below (T78.setTop (mkF m 212 #[.val (.int p0), .val (.long j1), .second, .val (.int p2), .val (.int p3), .val (.ref b), .val (.int fr), .val (.int to), .val (.int (7 : Int32))] [(.ref b)])) _
              refine XS.iload X78.here hx rfl (hb hby at_212) rfl ?_
              show Steps p.tables e below (T78.setTop (mkF m 214 #[.val (.int p0), .val (.long j1), .second, .val (.int p2), .val (.int p3), .val (.ref b), .val (.int fr), .val (.int to), .val (.int (7 : Int32))] [(.int fr), (.ref b)])) _
              refine XS.iload X78.here hx rfl (hb hby at_214) rfl ?_
              show Steps p.tables e below (T78.setTop (mkF m 216 #[.val (.int p0), .val (.long j1), .second, .val (.int p2), .val (.int p3), .val (.ref b), .val (.int fr), .val (.int to), .val (.int (7 : Int32))] [(.int to), (.int fr), (.ref b)])) _
              exact Steps.refl _)
          obtain ⟨r102, hr102, hM⟩ := Option.bind_eq_some_iff.mp hM
          obtain ⟨_, _, ⟨T103, L103, k103, n103⟩, -, X103, ⟨Lc103, hQ103, l103, y103, z103⟩, st103⟩ := Jvm.LawKit.callS X78 hx (y := (⟨"com/example/lettr/lettr/bench/Opening", "headEnd", "([BII)I"⟩ : MethodName)) hown (mvT hZ (hw _ (List.mem_of_getElem? (i := 9) rfl))) (mvT hZ (hw _ (List.mem_of_getElem? (i := 10) rfl))) (mvT hZ (hw _ (List.mem_of_getElem? (i := 11) rfl))) (mvT hZ (hw _ (List.mem_of_getElem? (i := 12) rfl))) (by decide) (backOf (W := 0) (rmE l Z a0 hw [] b fr to w_HEAD_END vsH y50 r102 h51 n0 Z51 SHEAD_END_51 Iw_HEAD_END_51 lz J51 hr102) hZ (hw _ (List.mem_of_getElem? (i := 12) rfl)) (hw _ (List.mem_of_getElem? (i := 11) rfl)) (by decide) (by decide)) (g := (mkF m 216 #[.val (.int p0), .val (.long j1), .second, .val (.int p2), .val (.int p3), .val (.ref b), .val (.int fr), .val (.int to), .val (.int (7 : Int32))] [(.int to), (.int fr), (.ref b)])) rfl (by rw [hml]; rfl) (argsL := [(.ref b), (.int fr), (.int to)]) (rest := []) (lenOf pd_2 rfl) rfl (by show 2 * 0 + _ ≤ _; exact Nat.le_of_eq rfl) (hb hby at_216) (fun _ _ => ⟨rfl, e78, (by decide : 1 + 0 ≤ _), (by decide : 8 + 0 ≤ _)⟩)
          dsimp only [Pt.U, Pt.locs, Pt.cells, Pt.slots] at X103 l103 y103 z103 st103 hQ103
          subst l103 y103 z103
          obtain ⟨rfl, N103q, e103⟩ := hQ103
          have N103 := Fr.app N78 N103q
          have q104 : Steps p.tables e below (s₁.setTop (entryFrame m #[(.int p0), (.long j1), (.int p2), (.int p3)] maxLocals)) (T103.setTop (mkF m 219 #[.val (.int p0), .val (.long j1), .second, .val (.int p2), .val (.int p3), .val (.ref b), .val (.int fr), .val (.int to), .val (.int (7 : Int32))] [(.int r102)])) := q101.trans (st103 _ (Steps.refl _))
          have q105 : Steps p.tables e below (s₁.setTop (entryFrame m #[(.int p0), (.long j1), (.int p2), (.int p3)] maxLocals)) (T103.setTop (mkF m 221 #[.val (.int p0), .val (.long j1), .second, .val (.int p2), .val (.int p3), .val (.ref b), .val (.int fr), .val (.int to), .val (.int (7 : Int32))] [(.int (7 : Int32)), (.int r102)])) := q104.trans (by
              show Steps p.tables e below (T103.setTop (mkF m 219 #[.val (.int p0), .val (.long j1), .second, .val (.int p2), .val (.int p3), .val (.ref b), .val (.int fr), .val (.int to), .val (.int (7 : Int32))] [(.int r102)])) _
              refine XS.iload X103.here hx rfl (hb hby at_219) rfl ?_
              show Steps p.tables e below (T103.setTop (mkF m 221 #[.val (.int p0), .val (.long j1), .second, .val (.int p2), .val (.int p3), .val (.ref b), .val (.int fr), .val (.int to), .val (.int (7 : Int32))] [(.int (7 : Int32)), (.int r102)])) _
              exact Steps.refl _)
          by_cases hc106 : r102 = (7 : Int32)
          · rw [if_pos hc106] at hM
            have q107 : Steps p.tables e below (s₁.setTop (entryFrame m #[(.int p0), (.long j1), (.int p2), (.int p3)] maxLocals)) (T103.setTop (mkF m 224 #[.val (.int p0), .val (.long j1), .second, .val (.int p2), .val (.int p3), .val (.ref b), .val (.int fr), .val (.int to), .val (.int (7 : Int32))] [])) := q105.trans (by
                show Steps p.tables e below (T103.setTop (mkF m 221 #[.val (.int p0), .val (.long j1), .second, .val (.int p2), .val (.int p3), .val (.ref b), .val (.int fr), .val (.int to), .val (.int (7 : Int32))] [(.int (7 : Int32)), (.int r102)])) _
                refine XS.icmpNo X103.here hx rfl (hb hby at_221) rfl (teq hc106).2 ?_
                show Steps p.tables e below (T103.setTop (mkF m 224 #[.val (.int p0), .val (.long j1), .second, .val (.int p2), .val (.int p3), .val (.ref b), .val (.int fr), .val (.int to), .val (.int (7 : Int32))] [])) _
                exact Steps.refl _)
            have q108 : Steps p.tables e below (s₁.setTop (entryFrame m #[(.int p0), (.long j1), (.int p2), (.int p3)] maxLocals)) (T103.setTop (mkF m 229 #[.val (.int p0), .val (.long j1), .second, .val (.int p2), .val (.int p3), .val (.ref b), .val (.int fr), .val (.int to), .val (.int (7 : Int32))] [(.int (1 : Int32))])) := q107.trans (by
                show Steps p.tables e below (T103.setTop (mkF m 224 #[.val (.int p0), .val (.long j1), .second, .val (.int p2), .val (.int p3), .val (.ref b), .val (.int fr), .val (.int to), .val (.int (7 : Int32))] [])) _
                refine XS.iconst X103.here hx rfl (hb hby at_224) ?_
                show Steps p.tables e below (T103.setTop (mkF m 225 #[.val (.int p0), .val (.long j1), .second, .val (.int p2), .val (.int p3), .val (.ref b), .val (.int fr), .val (.int to), .val (.int (7 : Int32))] [(.int (1 : Int32))])) _
                refine XS.goto X103.here hx rfl (pc0 := 225) (pc' := 229) rfl (hb hby at_225) (by decide) (by decide) ?_
                show Steps p.tables e below (T103.setTop (mkF m 229 #[.val (.int p0), .val (.long j1), .second, .val (.int p2), .val (.int p3), .val (.ref b), .val (.int fr), .val (.int to), .val (.int (7 : Int32))] [(.int (1 : Int32))])) _
                exact Steps.refl _)
            obtain rfl := Option.some.inj hM
            obtain ⟨fs, hr, hrun, hended, hW, hsame⟩ := X103.leave (v := some (.int (1 : Int32))) (fun h => by rw [Bd.returns] at h; cases h)
            refine ⟨_, _, q108.trans ?_, hrun, hended, _, _, rfl, ?_, ⟨_, rfl⟩, hW, hsame.mono (by decide) (by decide)⟩
            · exact retN X103 hx (t := .boolean) Bd.returns (by simp) (hb hby at_229) hr
            · show Q_rm0 Z p0 j1 p2 p3 w_HEAD_END vsH _ h0 n0 _ T103.heap _
              rw [e103]
              exact ⟨rfl, N103⟩
          · rw [if_neg hc106] at hM
            have q109 : Steps p.tables e below (s₁.setTop (entryFrame m #[(.int p0), (.long j1), (.int p2), (.int p3)] maxLocals)) (T103.setTop (mkF m 228 #[.val (.int p0), .val (.long j1), .second, .val (.int p2), .val (.int p3), .val (.ref b), .val (.int fr), .val (.int to), .val (.int (7 : Int32))] [])) := q105.trans (by
                show Steps p.tables e below (T103.setTop (mkF m 221 #[.val (.int p0), .val (.long j1), .second, .val (.int p2), .val (.int p3), .val (.ref b), .val (.int fr), .val (.int to), .val (.int (7 : Int32))] [(.int (7 : Int32)), (.int r102)])) _
                refine XS.icmpYes X103.here hx rfl (pc0 := 221) (pc' := 228) rfl (hb hby at_221) rfl (feq hc106).2 (by decide) (by decide) ?_
                show Steps p.tables e below (T103.setTop (mkF m 228 #[.val (.int p0), .val (.long j1), .second, .val (.int p2), .val (.int p3), .val (.ref b), .val (.int fr), .val (.int to), .val (.int (7 : Int32))] [])) _
                exact Steps.refl _)
            have q110 : Steps p.tables e below (s₁.setTop (entryFrame m #[(.int p0), (.long j1), (.int p2), (.int p3)] maxLocals)) (T103.setTop (mkF m 229 #[.val (.int p0), .val (.long j1), .second, .val (.int p2), .val (.int p3), .val (.ref b), .val (.int fr), .val (.int to), .val (.int (7 : Int32))] [(.int (0 : Int32))])) := q109.trans (by
                show Steps p.tables e below (T103.setTop (mkF m 228 #[.val (.int p0), .val (.long j1), .second, .val (.int p2), .val (.int p3), .val (.ref b), .val (.int fr), .val (.int to), .val (.int (7 : Int32))] [])) _
                refine XS.iconst X103.here hx rfl (hb hby at_228) ?_
                show Steps p.tables e below (T103.setTop (mkF m 229 #[.val (.int p0), .val (.long j1), .second, .val (.int p2), .val (.int p3), .val (.ref b), .val (.int fr), .val (.int to), .val (.int (7 : Int32))] [(.int (0 : Int32))])) _
                exact Steps.refl _)
            obtain rfl := Option.some.inj hM
            obtain ⟨fs, hr, hrun, hended, hW, hsame⟩ := X103.leave (v := some (.int (0 : Int32))) (fun h => by rw [Bd.returns] at h; cases h)
            refine ⟨_, _, q110.trans ?_, hrun, hended, _, _, rfl, ?_, ⟨_, rfl⟩, hW, hsame.mono (by decide) (by decide)⟩
            · exact retN X103 hx (t := .boolean) Bd.returns (by simp) (hb hby at_229) hr
            · show Q_rm0 Z p0 j1 p2 p3 w_HEAD_END vsH _ h0 n0 _ T103.heap _
              rw [e103]
              exact ⟨rfl, N103⟩
      · rw [if_neg hc74] at hM
        have q111 : Steps p.tables e below (s₁.setTop (entryFrame m #[(.int p0), (.long j1), (.int p2), (.int p3)] maxLocals)) (T71.setTop (mkF m 160 #[.val (.int p0), .val (.long j1), .second, .val (.int p2), .val (.int p3), .val (.ref b), .val (.int fr), .val (.int to), .unset] [])) := q72.trans (by
            show Steps p.tables e below (T71.setTop (mkF m 157 #[.val (.int p0), .val (.long j1), .second, .val (.int p2), .val (.int p3), .val (.ref b), .val (.int fr), .val (.int to), .unset] [(.int r70)])) _
            refine XS.ifNo X71.here hx rfl (hb hby at_157) rfl ((if0 _ _).trans (feq hc74).1) ?_
            show Steps p.tables e below (T71.setTop (mkF m 160 #[.val (.int p0), .val (.long j1), .second, .val (.int p2), .val (.int p3), .val (.ref b), .val (.int fr), .val (.int to), .unset] [])) _
            exact Steps.refl _)
        have q112 : Steps p.tables e below (s₁.setTop (entryFrame m #[(.int p0), (.long j1), (.int p2), (.int p3)] maxLocals)) (T71.setTop (mkF m 216 #[.val (.int p0), .val (.long j1), .second, .val (.int p2), .val (.int p3), .val (.ref b), .val (.int fr), .val (.int to), .val (.int (6 : Int32))] [(.int to), (.int fr), (.ref b)])) := q111.trans (by
            show Steps p.tables e below (T71.setTop (mkF m 160 #[.val (.int p0), .val (.long j1), .second, .val (.int p2), .val (.int p3), .val (.ref b), .val (.int fr), .val (.int to), .unset] [])) _
            refine XS.bipush X71.here hx rfl (hb hby at_160) ?_
            show Steps p.tables e below (T71.setTop (mkF m 162 #[.val (.int p0), .val (.long j1), .second, .val (.int p2), .val (.int p3), .val (.ref b), .val (.int fr), .val (.int to), .unset] [(.int (6 : Int32))])) _
            refine XS.istore X71.here hx rfl (hb hby at_162) rfl (l' := #[.val (.int p0), .val (.long j1), .second, .val (.int p2), .val (.int p3), .val (.ref b), .val (.int fr), .val (.int to), .val (.int (6 : Int32))]) rfl ?_
            show Steps p.tables e below (T71.setTop (mkF m 164 #[.val (.int p0), .val (.long j1), .second, .val (.int p2), .val (.int p3), .val (.ref b), .val (.int fr), .val (.int to), .val (.int (6 : Int32))] [])) _
            refine XS.goto X71.here hx rfl (pc0 := 164) (pc' := 210) rfl (hb hby at_164) (by decide) (by decide) ?_
            show Steps p.tables e below (T71.setTop (mkF m 210 #[.val (.int p0), .val (.long j1), .second, .val (.int p2), .val (.int p3), .val (.ref b), .val (.int fr), .val (.int to), .val (.int (6 : Int32))] [])) _
            refine XS.aload X71.here hx rfl (hb hby at_210) rfl rfl ?_
            show Steps p.tables e below (T71.setTop (mkF m 212 #[.val (.int p0), .val (.long j1), .second, .val (.int p2), .val (.int p3), .val (.ref b), .val (.int fr), .val (.int to), .val (.int (6 : Int32))] [(.ref b)])) _
            refine XS.iload X71.here hx rfl (hb hby at_212) rfl ?_
            show Steps p.tables e below (T71.setTop (mkF m 214 #[.val (.int p0), .val (.long j1), .second, .val (.int p2), .val (.int p3), .val (.ref b), .val (.int fr), .val (.int to), .val (.int (6 : Int32))] [(.int fr), (.ref b)])) _
            refine XS.iload X71.here hx rfl (hb hby at_214) rfl ?_
            show Steps p.tables e below (T71.setTop (mkF m 216 #[.val (.int p0), .val (.long j1), .second, .val (.int p2), .val (.int p3), .val (.ref b), .val (.int fr), .val (.int to), .val (.int (6 : Int32))] [(.int to), (.int fr), (.ref b)])) _
            exact Steps.refl _)
        obtain ⟨r113, hr113, hM⟩ := Option.bind_eq_some_iff.mp hM
        obtain ⟨_, _, ⟨T114, L114, k114, n114⟩, -, X114, ⟨Lc114, hQ114, l114, y114, z114⟩, st114⟩ := Jvm.LawKit.callS X71 hx (y := (⟨"com/example/lettr/lettr/bench/Opening", "headEnd", "([BII)I"⟩ : MethodName)) hown (mvT hZ (hw _ (List.mem_of_getElem? (i := 9) rfl))) (mvT hZ (hw _ (List.mem_of_getElem? (i := 10) rfl))) (mvT hZ (hw _ (List.mem_of_getElem? (i := 11) rfl))) (mvT hZ (hw _ (List.mem_of_getElem? (i := 12) rfl))) (by decide) (backOf (W := 0) (rmE l Z a0 hw [] b fr to w_HEAD_END vsH y50 r113 h51 n0 Z51 SHEAD_END_51 Iw_HEAD_END_51 lz J51 hr113) hZ (hw _ (List.mem_of_getElem? (i := 12) rfl)) (hw _ (List.mem_of_getElem? (i := 11) rfl)) (by decide) (by decide)) (g := (mkF m 216 #[.val (.int p0), .val (.long j1), .second, .val (.int p2), .val (.int p3), .val (.ref b), .val (.int fr), .val (.int to), .val (.int (6 : Int32))] [(.int to), (.int fr), (.ref b)])) rfl (by rw [hml]; rfl) (argsL := [(.ref b), (.int fr), (.int to)]) (rest := []) (lenOf pd_2 rfl) rfl (by show 2 * 0 + _ ≤ _; exact Nat.le_of_eq rfl) (hb hby at_216) (fun _ _ => ⟨rfl, e71, (by decide : 1 + 0 ≤ _), (by decide : 8 + 0 ≤ _)⟩)
        dsimp only [Pt.U, Pt.locs, Pt.cells, Pt.slots] at X114 l114 y114 z114 st114 hQ114
        subst l114 y114 z114
        obtain ⟨rfl, N114q, e114⟩ := hQ114
        have N114 := Fr.app N71 N114q
        have q115 : Steps p.tables e below (s₁.setTop (entryFrame m #[(.int p0), (.long j1), (.int p2), (.int p3)] maxLocals)) (T114.setTop (mkF m 219 #[.val (.int p0), .val (.long j1), .second, .val (.int p2), .val (.int p3), .val (.ref b), .val (.int fr), .val (.int to), .val (.int (6 : Int32))] [(.int r113)])) := q112.trans (st114 _ (Steps.refl _))
        have q116 : Steps p.tables e below (s₁.setTop (entryFrame m #[(.int p0), (.long j1), (.int p2), (.int p3)] maxLocals)) (T114.setTop (mkF m 221 #[.val (.int p0), .val (.long j1), .second, .val (.int p2), .val (.int p3), .val (.ref b), .val (.int fr), .val (.int to), .val (.int (6 : Int32))] [(.int (6 : Int32)), (.int r113)])) := q115.trans (by
            show Steps p.tables e below (T114.setTop (mkF m 219 #[.val (.int p0), .val (.long j1), .second, .val (.int p2), .val (.int p3), .val (.ref b), .val (.int fr), .val (.int to), .val (.int (6 : Int32))] [(.int r113)])) _
            refine XS.iload X114.here hx rfl (hb hby at_219) rfl ?_
            show Steps p.tables e below (T114.setTop (mkF m 221 #[.val (.int p0), .val (.long j1), .second, .val (.int p2), .val (.int p3), .val (.ref b), .val (.int fr), .val (.int to), .val (.int (6 : Int32))] [(.int (6 : Int32)), (.int r113)])) _
            exact Steps.refl _)
        by_cases hc117 : r113 = (6 : Int32)
        · rw [if_pos hc117] at hM
          have q118 : Steps p.tables e below (s₁.setTop (entryFrame m #[(.int p0), (.long j1), (.int p2), (.int p3)] maxLocals)) (T114.setTop (mkF m 224 #[.val (.int p0), .val (.long j1), .second, .val (.int p2), .val (.int p3), .val (.ref b), .val (.int fr), .val (.int to), .val (.int (6 : Int32))] [])) := q116.trans (by
              show Steps p.tables e below (T114.setTop (mkF m 221 #[.val (.int p0), .val (.long j1), .second, .val (.int p2), .val (.int p3), .val (.ref b), .val (.int fr), .val (.int to), .val (.int (6 : Int32))] [(.int (6 : Int32)), (.int r113)])) _
              refine XS.icmpNo X114.here hx rfl (hb hby at_221) rfl (teq hc117).2 ?_
              show Steps p.tables e below (T114.setTop (mkF m 224 #[.val (.int p0), .val (.long j1), .second, .val (.int p2), .val (.int p3), .val (.ref b), .val (.int fr), .val (.int to), .val (.int (6 : Int32))] [])) _
              exact Steps.refl _)
          have q119 : Steps p.tables e below (s₁.setTop (entryFrame m #[(.int p0), (.long j1), (.int p2), (.int p3)] maxLocals)) (T114.setTop (mkF m 229 #[.val (.int p0), .val (.long j1), .second, .val (.int p2), .val (.int p3), .val (.ref b), .val (.int fr), .val (.int to), .val (.int (6 : Int32))] [(.int (1 : Int32))])) := q118.trans (by
              show Steps p.tables e below (T114.setTop (mkF m 224 #[.val (.int p0), .val (.long j1), .second, .val (.int p2), .val (.int p3), .val (.ref b), .val (.int fr), .val (.int to), .val (.int (6 : Int32))] [])) _
              refine XS.iconst X114.here hx rfl (hb hby at_224) ?_
              show Steps p.tables e below (T114.setTop (mkF m 225 #[.val (.int p0), .val (.long j1), .second, .val (.int p2), .val (.int p3), .val (.ref b), .val (.int fr), .val (.int to), .val (.int (6 : Int32))] [(.int (1 : Int32))])) _
              refine XS.goto X114.here hx rfl (pc0 := 225) (pc' := 229) rfl (hb hby at_225) (by decide) (by decide) ?_
              show Steps p.tables e below (T114.setTop (mkF m 229 #[.val (.int p0), .val (.long j1), .second, .val (.int p2), .val (.int p3), .val (.ref b), .val (.int fr), .val (.int to), .val (.int (6 : Int32))] [(.int (1 : Int32))])) _
              exact Steps.refl _)
          obtain rfl := Option.some.inj hM
          obtain ⟨fs, hr, hrun, hended, hW, hsame⟩ := X114.leave (v := some (.int (1 : Int32))) (fun h => by rw [Bd.returns] at h; cases h)
          refine ⟨_, _, q119.trans ?_, hrun, hended, _, _, rfl, ?_, ⟨_, rfl⟩, hW, hsame.mono (by decide) (by decide)⟩
          · exact retN X114 hx (t := .boolean) Bd.returns (by simp) (hb hby at_229) hr
          · show Q_rm0 Z p0 j1 p2 p3 w_HEAD_END vsH _ h0 n0 _ T114.heap _
            rw [e114]
            exact ⟨rfl, N114⟩
        · rw [if_neg hc117] at hM
          have q120 : Steps p.tables e below (s₁.setTop (entryFrame m #[(.int p0), (.long j1), (.int p2), (.int p3)] maxLocals)) (T114.setTop (mkF m 228 #[.val (.int p0), .val (.long j1), .second, .val (.int p2), .val (.int p3), .val (.ref b), .val (.int fr), .val (.int to), .val (.int (6 : Int32))] [])) := q116.trans (by
              show Steps p.tables e below (T114.setTop (mkF m 221 #[.val (.int p0), .val (.long j1), .second, .val (.int p2), .val (.int p3), .val (.ref b), .val (.int fr), .val (.int to), .val (.int (6 : Int32))] [(.int (6 : Int32)), (.int r113)])) _
              refine XS.icmpYes X114.here hx rfl (pc0 := 221) (pc' := 228) rfl (hb hby at_221) rfl (feq hc117).2 (by decide) (by decide) ?_
              show Steps p.tables e below (T114.setTop (mkF m 228 #[.val (.int p0), .val (.long j1), .second, .val (.int p2), .val (.int p3), .val (.ref b), .val (.int fr), .val (.int to), .val (.int (6 : Int32))] [])) _
              exact Steps.refl _)
          have q121 : Steps p.tables e below (s₁.setTop (entryFrame m #[(.int p0), (.long j1), (.int p2), (.int p3)] maxLocals)) (T114.setTop (mkF m 229 #[.val (.int p0), .val (.long j1), .second, .val (.int p2), .val (.int p3), .val (.ref b), .val (.int fr), .val (.int to), .val (.int (6 : Int32))] [(.int (0 : Int32))])) := q120.trans (by
              show Steps p.tables e below (T114.setTop (mkF m 228 #[.val (.int p0), .val (.long j1), .second, .val (.int p2), .val (.int p3), .val (.ref b), .val (.int fr), .val (.int to), .val (.int (6 : Int32))] [])) _
              refine XS.iconst X114.here hx rfl (hb hby at_228) ?_
              show Steps p.tables e below (T114.setTop (mkF m 229 #[.val (.int p0), .val (.long j1), .second, .val (.int p2), .val (.int p3), .val (.ref b), .val (.int fr), .val (.int to), .val (.int (6 : Int32))] [(.int (0 : Int32))])) _
              exact Steps.refl _)
          obtain rfl := Option.some.inj hM
          obtain ⟨fs, hr, hrun, hended, hW, hsame⟩ := X114.leave (v := some (.int (0 : Int32))) (fun h => by rw [Bd.returns] at h; cases h)
          refine ⟨_, _, q121.trans ?_, hrun, hended, _, _, rfl, ?_, ⟨_, rfl⟩, hW, hsame.mono (by decide) (by decide)⟩
          · exact retN X114 hx (t := .boolean) Bd.returns (by simp) (hb hby at_229) hr
          · show Q_rm0 Z p0 j1 p2 p3 w_HEAD_END vsH _ h0 n0 _ T114.heap _
            rw [e114]
            exact ⟨rfl, N114⟩
    · rw [if_neg hc67] at hM
      have q122 : Steps p.tables e below (s₁.setTop (entryFrame m #[(.int p0), (.long j1), (.int p2), (.int p3)] maxLocals)) (T64.setTop (mkF m 141 #[.val (.int p0), .val (.long j1), .second, .val (.int p2), .val (.int p3), .val (.ref b), .val (.int fr), .val (.int to), .unset] [])) := q65.trans (by
          show Steps p.tables e below (T64.setTop (mkF m 138 #[.val (.int p0), .val (.long j1), .second, .val (.int p2), .val (.int p3), .val (.ref b), .val (.int fr), .val (.int to), .unset] [(.int r63)])) _
          refine XS.ifNo X64.here hx rfl (hb hby at_138) rfl ((if0 _ _).trans (feq hc67).1) ?_
          show Steps p.tables e below (T64.setTop (mkF m 141 #[.val (.int p0), .val (.long j1), .second, .val (.int p2), .val (.int p3), .val (.ref b), .val (.int fr), .val (.int to), .unset] [])) _
          exact Steps.refl _)
      have q123 : Steps p.tables e below (s₁.setTop (entryFrame m #[(.int p0), (.long j1), (.int p2), (.int p3)] maxLocals)) (T64.setTop (mkF m 216 #[.val (.int p0), .val (.long j1), .second, .val (.int p2), .val (.int p3), .val (.ref b), .val (.int fr), .val (.int to), .val (.int (5 : Int32))] [(.int to), (.int fr), (.ref b)])) := q122.trans (by
          show Steps p.tables e below (T64.setTop (mkF m 141 #[.val (.int p0), .val (.long j1), .second, .val (.int p2), .val (.int p3), .val (.ref b), .val (.int fr), .val (.int to), .unset] [])) _
          refine XS.iconst X64.here hx rfl (hb hby at_141) ?_
          show Steps p.tables e below (T64.setTop (mkF m 142 #[.val (.int p0), .val (.long j1), .second, .val (.int p2), .val (.int p3), .val (.ref b), .val (.int fr), .val (.int to), .unset] [(.int (5 : Int32))])) _
          refine XS.istore X64.here hx rfl (hb hby at_142) rfl (l' := #[.val (.int p0), .val (.long j1), .second, .val (.int p2), .val (.int p3), .val (.ref b), .val (.int fr), .val (.int to), .val (.int (5 : Int32))]) rfl ?_
          show Steps p.tables e below (T64.setTop (mkF m 144 #[.val (.int p0), .val (.long j1), .second, .val (.int p2), .val (.int p3), .val (.ref b), .val (.int fr), .val (.int to), .val (.int (5 : Int32))] [])) _
          refine XS.goto X64.here hx rfl (pc0 := 144) (pc' := 210) rfl (hb hby at_144) (by decide) (by decide) ?_
          show Steps p.tables e below (T64.setTop (mkF m 210 #[.val (.int p0), .val (.long j1), .second, .val (.int p2), .val (.int p3), .val (.ref b), .val (.int fr), .val (.int to), .val (.int (5 : Int32))] [])) _
          refine XS.aload X64.here hx rfl (hb hby at_210) rfl rfl ?_
          show Steps p.tables e below (T64.setTop (mkF m 212 #[.val (.int p0), .val (.long j1), .second, .val (.int p2), .val (.int p3), .val (.ref b), .val (.int fr), .val (.int to), .val (.int (5 : Int32))] [(.ref b)])) _
          refine XS.iload X64.here hx rfl (hb hby at_212) rfl ?_
          show Steps p.tables e below (T64.setTop (mkF m 214 #[.val (.int p0), .val (.long j1), .second, .val (.int p2), .val (.int p3), .val (.ref b), .val (.int fr), .val (.int to), .val (.int (5 : Int32))] [(.int fr), (.ref b)])) _
          refine XS.iload X64.here hx rfl (hb hby at_214) rfl ?_
          show Steps p.tables e below (T64.setTop (mkF m 216 #[.val (.int p0), .val (.long j1), .second, .val (.int p2), .val (.int p3), .val (.ref b), .val (.int fr), .val (.int to), .val (.int (5 : Int32))] [(.int to), (.int fr), (.ref b)])) _
          exact Steps.refl _)
      obtain ⟨r124, hr124, hM⟩ := Option.bind_eq_some_iff.mp hM
      obtain ⟨_, _, ⟨T125, L125, k125, n125⟩, -, X125, ⟨Lc125, hQ125, l125, y125, z125⟩, st125⟩ := Jvm.LawKit.callS X64 hx (y := (⟨"com/example/lettr/lettr/bench/Opening", "headEnd", "([BII)I"⟩ : MethodName)) hown (mvT hZ (hw _ (List.mem_of_getElem? (i := 9) rfl))) (mvT hZ (hw _ (List.mem_of_getElem? (i := 10) rfl))) (mvT hZ (hw _ (List.mem_of_getElem? (i := 11) rfl))) (mvT hZ (hw _ (List.mem_of_getElem? (i := 12) rfl))) (by decide) (backOf (W := 0) (rmE l Z a0 hw [] b fr to w_HEAD_END vsH y50 r124 h51 n0 Z51 SHEAD_END_51 Iw_HEAD_END_51 lz J51 hr124) hZ (hw _ (List.mem_of_getElem? (i := 12) rfl)) (hw _ (List.mem_of_getElem? (i := 11) rfl)) (by decide) (by decide)) (g := (mkF m 216 #[.val (.int p0), .val (.long j1), .second, .val (.int p2), .val (.int p3), .val (.ref b), .val (.int fr), .val (.int to), .val (.int (5 : Int32))] [(.int to), (.int fr), (.ref b)])) rfl (by rw [hml]; rfl) (argsL := [(.ref b), (.int fr), (.int to)]) (rest := []) (lenOf pd_2 rfl) rfl (by show 2 * 0 + _ ≤ _; exact Nat.le_of_eq rfl) (hb hby at_216) (fun _ _ => ⟨rfl, e64, (by decide : 1 + 0 ≤ _), (by decide : 8 + 0 ≤ _)⟩)
      dsimp only [Pt.U, Pt.locs, Pt.cells, Pt.slots] at X125 l125 y125 z125 st125 hQ125
      subst l125 y125 z125
      obtain ⟨rfl, N125q, e125⟩ := hQ125
      have N125 := Fr.app N64 N125q
      have q126 : Steps p.tables e below (s₁.setTop (entryFrame m #[(.int p0), (.long j1), (.int p2), (.int p3)] maxLocals)) (T125.setTop (mkF m 219 #[.val (.int p0), .val (.long j1), .second, .val (.int p2), .val (.int p3), .val (.ref b), .val (.int fr), .val (.int to), .val (.int (5 : Int32))] [(.int r124)])) := q123.trans (st125 _ (Steps.refl _))
      have q127 : Steps p.tables e below (s₁.setTop (entryFrame m #[(.int p0), (.long j1), (.int p2), (.int p3)] maxLocals)) (T125.setTop (mkF m 221 #[.val (.int p0), .val (.long j1), .second, .val (.int p2), .val (.int p3), .val (.ref b), .val (.int fr), .val (.int to), .val (.int (5 : Int32))] [(.int (5 : Int32)), (.int r124)])) := q126.trans (by
          show Steps p.tables e below (T125.setTop (mkF m 219 #[.val (.int p0), .val (.long j1), .second, .val (.int p2), .val (.int p3), .val (.ref b), .val (.int fr), .val (.int to), .val (.int (5 : Int32))] [(.int r124)])) _
          refine XS.iload X125.here hx rfl (hb hby at_219) rfl ?_
          show Steps p.tables e below (T125.setTop (mkF m 221 #[.val (.int p0), .val (.long j1), .second, .val (.int p2), .val (.int p3), .val (.ref b), .val (.int fr), .val (.int to), .val (.int (5 : Int32))] [(.int (5 : Int32)), (.int r124)])) _
          exact Steps.refl _)
      by_cases hc128 : r124 = (5 : Int32)
      · rw [if_pos hc128] at hM
        have q129 : Steps p.tables e below (s₁.setTop (entryFrame m #[(.int p0), (.long j1), (.int p2), (.int p3)] maxLocals)) (T125.setTop (mkF m 224 #[.val (.int p0), .val (.long j1), .second, .val (.int p2), .val (.int p3), .val (.ref b), .val (.int fr), .val (.int to), .val (.int (5 : Int32))] [])) := q127.trans (by
            show Steps p.tables e below (T125.setTop (mkF m 221 #[.val (.int p0), .val (.long j1), .second, .val (.int p2), .val (.int p3), .val (.ref b), .val (.int fr), .val (.int to), .val (.int (5 : Int32))] [(.int (5 : Int32)), (.int r124)])) _
            refine XS.icmpNo X125.here hx rfl (hb hby at_221) rfl (teq hc128).2 ?_
            show Steps p.tables e below (T125.setTop (mkF m 224 #[.val (.int p0), .val (.long j1), .second, .val (.int p2), .val (.int p3), .val (.ref b), .val (.int fr), .val (.int to), .val (.int (5 : Int32))] [])) _
            exact Steps.refl _)
        have q130 : Steps p.tables e below (s₁.setTop (entryFrame m #[(.int p0), (.long j1), (.int p2), (.int p3)] maxLocals)) (T125.setTop (mkF m 229 #[.val (.int p0), .val (.long j1), .second, .val (.int p2), .val (.int p3), .val (.ref b), .val (.int fr), .val (.int to), .val (.int (5 : Int32))] [(.int (1 : Int32))])) := q129.trans (by
            show Steps p.tables e below (T125.setTop (mkF m 224 #[.val (.int p0), .val (.long j1), .second, .val (.int p2), .val (.int p3), .val (.ref b), .val (.int fr), .val (.int to), .val (.int (5 : Int32))] [])) _
            refine XS.iconst X125.here hx rfl (hb hby at_224) ?_
            show Steps p.tables e below (T125.setTop (mkF m 225 #[.val (.int p0), .val (.long j1), .second, .val (.int p2), .val (.int p3), .val (.ref b), .val (.int fr), .val (.int to), .val (.int (5 : Int32))] [(.int (1 : Int32))])) _
            refine XS.goto X125.here hx rfl (pc0 := 225) (pc' := 229) rfl (hb hby at_225) (by decide) (by decide) ?_
            show Steps p.tables e below (T125.setTop (mkF m 229 #[.val (.int p0), .val (.long j1), .second, .val (.int p2), .val (.int p3), .val (.ref b), .val (.int fr), .val (.int to), .val (.int (5 : Int32))] [(.int (1 : Int32))])) _
            exact Steps.refl _)
        obtain rfl := Option.some.inj hM
        obtain ⟨fs, hr, hrun, hended, hW, hsame⟩ := X125.leave (v := some (.int (1 : Int32))) (fun h => by rw [Bd.returns] at h; cases h)
        refine ⟨_, _, q130.trans ?_, hrun, hended, _, _, rfl, ?_, ⟨_, rfl⟩, hW, hsame.mono (by decide) (by decide)⟩
        · exact retN X125 hx (t := .boolean) Bd.returns (by simp) (hb hby at_229) hr
        · show Q_rm0 Z p0 j1 p2 p3 w_HEAD_END vsH _ h0 n0 _ T125.heap _
          rw [e125]
          exact ⟨rfl, N125⟩
      · rw [if_neg hc128] at hM
        have q131 : Steps p.tables e below (s₁.setTop (entryFrame m #[(.int p0), (.long j1), (.int p2), (.int p3)] maxLocals)) (T125.setTop (mkF m 228 #[.val (.int p0), .val (.long j1), .second, .val (.int p2), .val (.int p3), .val (.ref b), .val (.int fr), .val (.int to), .val (.int (5 : Int32))] [])) := q127.trans (by
            show Steps p.tables e below (T125.setTop (mkF m 221 #[.val (.int p0), .val (.long j1), .second, .val (.int p2), .val (.int p3), .val (.ref b), .val (.int fr), .val (.int to), .val (.int (5 : Int32))] [(.int (5 : Int32)), (.int r124)])) _
            refine XS.icmpYes X125.here hx rfl (pc0 := 221) (pc' := 228) rfl (hb hby at_221) rfl (feq hc128).2 (by decide) (by decide) ?_
            show Steps p.tables e below (T125.setTop (mkF m 228 #[.val (.int p0), .val (.long j1), .second, .val (.int p2), .val (.int p3), .val (.ref b), .val (.int fr), .val (.int to), .val (.int (5 : Int32))] [])) _
            exact Steps.refl _)
        have q132 : Steps p.tables e below (s₁.setTop (entryFrame m #[(.int p0), (.long j1), (.int p2), (.int p3)] maxLocals)) (T125.setTop (mkF m 229 #[.val (.int p0), .val (.long j1), .second, .val (.int p2), .val (.int p3), .val (.ref b), .val (.int fr), .val (.int to), .val (.int (5 : Int32))] [(.int (0 : Int32))])) := q131.trans (by
            show Steps p.tables e below (T125.setTop (mkF m 228 #[.val (.int p0), .val (.long j1), .second, .val (.int p2), .val (.int p3), .val (.ref b), .val (.int fr), .val (.int to), .val (.int (5 : Int32))] [])) _
            refine XS.iconst X125.here hx rfl (hb hby at_228) ?_
            show Steps p.tables e below (T125.setTop (mkF m 229 #[.val (.int p0), .val (.long j1), .second, .val (.int p2), .val (.int p3), .val (.ref b), .val (.int fr), .val (.int to), .val (.int (5 : Int32))] [(.int (0 : Int32))])) _
            exact Steps.refl _)
        obtain rfl := Option.some.inj hM
        obtain ⟨fs, hr, hrun, hended, hW, hsame⟩ := X125.leave (v := some (.int (0 : Int32))) (fun h => by rw [Bd.returns] at h; cases h)
        refine ⟨_, _, q132.trans ?_, hrun, hended, _, _, rfl, ?_, ⟨_, rfl⟩, hW, hsame.mono (by decide) (by decide)⟩
        · exact retN X125 hx (t := .boolean) Bd.returns (by simp) (hb hby at_229) hr
        · show Q_rm0 Z p0 j1 p2 p3 w_HEAD_END vsH _ h0 n0 _ T125.heap _
          rw [e125]
          exact ⟨rfl, N125⟩
  · rw [if_neg hc60] at hM
    have q133 : Steps p.tables e below (s₁.setTop (entryFrame m #[(.int p0), (.long j1), (.int p2), (.int p3)] maxLocals)) (T57.setTop (mkF m 122 #[.val (.int p0), .val (.long j1), .second, .val (.int p2), .val (.int p3), .val (.ref b), .val (.int fr), .val (.int to), .unset] [])) := q58.trans (by
        show Steps p.tables e below (T57.setTop (mkF m 119 #[.val (.int p0), .val (.long j1), .second, .val (.int p2), .val (.int p3), .val (.ref b), .val (.int fr), .val (.int to), .unset] [(.int r56)])) _
        refine XS.ifNo X57.here hx rfl (hb hby at_119) rfl ((if0 _ _).trans (feq hc60).1) ?_
        show Steps p.tables e below (T57.setTop (mkF m 122 #[.val (.int p0), .val (.long j1), .second, .val (.int p2), .val (.int p3), .val (.ref b), .val (.int fr), .val (.int to), .unset] [])) _
        exact Steps.refl _)
    have q134 : Steps p.tables e below (s₁.setTop (entryFrame m #[(.int p0), (.long j1), (.int p2), (.int p3)] maxLocals)) (T57.setTop (mkF m 216 #[.val (.int p0), .val (.long j1), .second, .val (.int p2), .val (.int p3), .val (.ref b), .val (.int fr), .val (.int to), .val (.int (4 : Int32))] [(.int to), (.int fr), (.ref b)])) := q133.trans (by
        show Steps p.tables e below (T57.setTop (mkF m 122 #[.val (.int p0), .val (.long j1), .second, .val (.int p2), .val (.int p3), .val (.ref b), .val (.int fr), .val (.int to), .unset] [])) _
        refine XS.iconst X57.here hx rfl (hb hby at_122) ?_
        show Steps p.tables e below (T57.setTop (mkF m 123 #[.val (.int p0), .val (.long j1), .second, .val (.int p2), .val (.int p3), .val (.ref b), .val (.int fr), .val (.int to), .unset] [(.int (4 : Int32))])) _
        refine XS.istore X57.here hx rfl (hb hby at_123) rfl (l' := #[.val (.int p0), .val (.long j1), .second, .val (.int p2), .val (.int p3), .val (.ref b), .val (.int fr), .val (.int to), .val (.int (4 : Int32))]) rfl ?_
        show Steps p.tables e below (T57.setTop (mkF m 125 #[.val (.int p0), .val (.long j1), .second, .val (.int p2), .val (.int p3), .val (.ref b), .val (.int fr), .val (.int to), .val (.int (4 : Int32))] [])) _
        refine XS.goto X57.here hx rfl (pc0 := 125) (pc' := 210) rfl (hb hby at_125) (by decide) (by decide) ?_
        show Steps p.tables e below (T57.setTop (mkF m 210 #[.val (.int p0), .val (.long j1), .second, .val (.int p2), .val (.int p3), .val (.ref b), .val (.int fr), .val (.int to), .val (.int (4 : Int32))] [])) _
        refine XS.aload X57.here hx rfl (hb hby at_210) rfl rfl ?_
        show Steps p.tables e below (T57.setTop (mkF m 212 #[.val (.int p0), .val (.long j1), .second, .val (.int p2), .val (.int p3), .val (.ref b), .val (.int fr), .val (.int to), .val (.int (4 : Int32))] [(.ref b)])) _
        refine XS.iload X57.here hx rfl (hb hby at_212) rfl ?_
        show Steps p.tables e below (T57.setTop (mkF m 214 #[.val (.int p0), .val (.long j1), .second, .val (.int p2), .val (.int p3), .val (.ref b), .val (.int fr), .val (.int to), .val (.int (4 : Int32))] [(.int fr), (.ref b)])) _
        refine XS.iload X57.here hx rfl (hb hby at_214) rfl ?_
        show Steps p.tables e below (T57.setTop (mkF m 216 #[.val (.int p0), .val (.long j1), .second, .val (.int p2), .val (.int p3), .val (.ref b), .val (.int fr), .val (.int to), .val (.int (4 : Int32))] [(.int to), (.int fr), (.ref b)])) _
        exact Steps.refl _)
    obtain ⟨r135, hr135, hM⟩ := Option.bind_eq_some_iff.mp hM
    obtain ⟨_, _, ⟨T136, L136, k136, n136⟩, -, X136, ⟨Lc136, hQ136, l136, y136, z136⟩, st136⟩ := Jvm.LawKit.callS X57 hx (y := (⟨"com/example/lettr/lettr/bench/Opening", "headEnd", "([BII)I"⟩ : MethodName)) hown (mvT hZ (hw _ (List.mem_of_getElem? (i := 9) rfl))) (mvT hZ (hw _ (List.mem_of_getElem? (i := 10) rfl))) (mvT hZ (hw _ (List.mem_of_getElem? (i := 11) rfl))) (mvT hZ (hw _ (List.mem_of_getElem? (i := 12) rfl))) (by decide) (backOf (W := 0) (rmE l Z a0 hw [] b fr to w_HEAD_END vsH y50 r135 h51 n0 Z51 SHEAD_END_51 Iw_HEAD_END_51 lz J51 hr135) hZ (hw _ (List.mem_of_getElem? (i := 12) rfl)) (hw _ (List.mem_of_getElem? (i := 11) rfl)) (by decide) (by decide)) (g := (mkF m 216 #[.val (.int p0), .val (.long j1), .second, .val (.int p2), .val (.int p3), .val (.ref b), .val (.int fr), .val (.int to), .val (.int (4 : Int32))] [(.int to), (.int fr), (.ref b)])) rfl (by rw [hml]; rfl) (argsL := [(.ref b), (.int fr), (.int to)]) (rest := []) (lenOf pd_2 rfl) rfl (by show 2 * 0 + _ ≤ _; exact Nat.le_of_eq rfl) (hb hby at_216) (fun _ _ => ⟨rfl, e57, (by decide : 1 + 0 ≤ _), (by decide : 8 + 0 ≤ _)⟩)
    dsimp only [Pt.U, Pt.locs, Pt.cells, Pt.slots] at X136 l136 y136 z136 st136 hQ136
    subst l136 y136 z136
    obtain ⟨rfl, N136q, e136⟩ := hQ136
    have N136 := Fr.app N57 N136q
    have q137 : Steps p.tables e below (s₁.setTop (entryFrame m #[(.int p0), (.long j1), (.int p2), (.int p3)] maxLocals)) (T136.setTop (mkF m 219 #[.val (.int p0), .val (.long j1), .second, .val (.int p2), .val (.int p3), .val (.ref b), .val (.int fr), .val (.int to), .val (.int (4 : Int32))] [(.int r135)])) := q134.trans (st136 _ (Steps.refl _))
    have q138 : Steps p.tables e below (s₁.setTop (entryFrame m #[(.int p0), (.long j1), (.int p2), (.int p3)] maxLocals)) (T136.setTop (mkF m 221 #[.val (.int p0), .val (.long j1), .second, .val (.int p2), .val (.int p3), .val (.ref b), .val (.int fr), .val (.int to), .val (.int (4 : Int32))] [(.int (4 : Int32)), (.int r135)])) := q137.trans (by
        show Steps p.tables e below (T136.setTop (mkF m 219 #[.val (.int p0), .val (.long j1), .second, .val (.int p2), .val (.int p3), .val (.ref b), .val (.int fr), .val (.int to), .val (.int (4 : Int32))] [(.int r135)])) _
        refine XS.iload X136.here hx rfl (hb hby at_219) rfl ?_
        show Steps p.tables e below (T136.setTop (mkF m 221 #[.val (.int p0), .val (.long j1), .second, .val (.int p2), .val (.int p3), .val (.ref b), .val (.int fr), .val (.int to), .val (.int (4 : Int32))] [(.int (4 : Int32)), (.int r135)])) _
        exact Steps.refl _)
    by_cases hc139 : r135 = (4 : Int32)
    · rw [if_pos hc139] at hM
      have q140 : Steps p.tables e below (s₁.setTop (entryFrame m #[(.int p0), (.long j1), (.int p2), (.int p3)] maxLocals)) (T136.setTop (mkF m 224 #[.val (.int p0), .val (.long j1), .second, .val (.int p2), .val (.int p3), .val (.ref b), .val (.int fr), .val (.int to), .val (.int (4 : Int32))] [])) := q138.trans (by
          show Steps p.tables e below (T136.setTop (mkF m 221 #[.val (.int p0), .val (.long j1), .second, .val (.int p2), .val (.int p3), .val (.ref b), .val (.int fr), .val (.int to), .val (.int (4 : Int32))] [(.int (4 : Int32)), (.int r135)])) _
          refine XS.icmpNo X136.here hx rfl (hb hby at_221) rfl (teq hc139).2 ?_
          show Steps p.tables e below (T136.setTop (mkF m 224 #[.val (.int p0), .val (.long j1), .second, .val (.int p2), .val (.int p3), .val (.ref b), .val (.int fr), .val (.int to), .val (.int (4 : Int32))] [])) _
          exact Steps.refl _)
      have q141 : Steps p.tables e below (s₁.setTop (entryFrame m #[(.int p0), (.long j1), (.int p2), (.int p3)] maxLocals)) (T136.setTop (mkF m 229 #[.val (.int p0), .val (.long j1), .second, .val (.int p2), .val (.int p3), .val (.ref b), .val (.int fr), .val (.int to), .val (.int (4 : Int32))] [(.int (1 : Int32))])) := q140.trans (by
          show Steps p.tables e below (T136.setTop (mkF m 224 #[.val (.int p0), .val (.long j1), .second, .val (.int p2), .val (.int p3), .val (.ref b), .val (.int fr), .val (.int to), .val (.int (4 : Int32))] [])) _
          refine XS.iconst X136.here hx rfl (hb hby at_224) ?_
          show Steps p.tables e below (T136.setTop (mkF m 225 #[.val (.int p0), .val (.long j1), .second, .val (.int p2), .val (.int p3), .val (.ref b), .val (.int fr), .val (.int to), .val (.int (4 : Int32))] [(.int (1 : Int32))])) _
          refine XS.goto X136.here hx rfl (pc0 := 225) (pc' := 229) rfl (hb hby at_225) (by decide) (by decide) ?_
          show Steps p.tables e below (T136.setTop (mkF m 229 #[.val (.int p0), .val (.long j1), .second, .val (.int p2), .val (.int p3), .val (.ref b), .val (.int fr), .val (.int to), .val (.int (4 : Int32))] [(.int (1 : Int32))])) _
          exact Steps.refl _)
      obtain rfl := Option.some.inj hM
      obtain ⟨fs, hr, hrun, hended, hW, hsame⟩ := X136.leave (v := some (.int (1 : Int32))) (fun h => by rw [Bd.returns] at h; cases h)
      refine ⟨_, _, q141.trans ?_, hrun, hended, _, _, rfl, ?_, ⟨_, rfl⟩, hW, hsame.mono (by decide) (by decide)⟩
      · exact retN X136 hx (t := .boolean) Bd.returns (by simp) (hb hby at_229) hr
      · show Q_rm0 Z p0 j1 p2 p3 w_HEAD_END vsH _ h0 n0 _ T136.heap _
        rw [e136]
        exact ⟨rfl, N136⟩
    · rw [if_neg hc139] at hM
      have q142 : Steps p.tables e below (s₁.setTop (entryFrame m #[(.int p0), (.long j1), (.int p2), (.int p3)] maxLocals)) (T136.setTop (mkF m 228 #[.val (.int p0), .val (.long j1), .second, .val (.int p2), .val (.int p3), .val (.ref b), .val (.int fr), .val (.int to), .val (.int (4 : Int32))] [])) := q138.trans (by
          show Steps p.tables e below (T136.setTop (mkF m 221 #[.val (.int p0), .val (.long j1), .second, .val (.int p2), .val (.int p3), .val (.ref b), .val (.int fr), .val (.int to), .val (.int (4 : Int32))] [(.int (4 : Int32)), (.int r135)])) _
          refine XS.icmpYes X136.here hx rfl (pc0 := 221) (pc' := 228) rfl (hb hby at_221) rfl (feq hc139).2 (by decide) (by decide) ?_
          show Steps p.tables e below (T136.setTop (mkF m 228 #[.val (.int p0), .val (.long j1), .second, .val (.int p2), .val (.int p3), .val (.ref b), .val (.int fr), .val (.int to), .val (.int (4 : Int32))] [])) _
          exact Steps.refl _)
      have q143 : Steps p.tables e below (s₁.setTop (entryFrame m #[(.int p0), (.long j1), (.int p2), (.int p3)] maxLocals)) (T136.setTop (mkF m 229 #[.val (.int p0), .val (.long j1), .second, .val (.int p2), .val (.int p3), .val (.ref b), .val (.int fr), .val (.int to), .val (.int (4 : Int32))] [(.int (0 : Int32))])) := q142.trans (by
          show Steps p.tables e below (T136.setTop (mkF m 228 #[.val (.int p0), .val (.long j1), .second, .val (.int p2), .val (.int p3), .val (.ref b), .val (.int fr), .val (.int to), .val (.int (4 : Int32))] [])) _
          refine XS.iconst X136.here hx rfl (hb hby at_228) ?_
          show Steps p.tables e below (T136.setTop (mkF m 229 #[.val (.int p0), .val (.long j1), .second, .val (.int p2), .val (.int p3), .val (.ref b), .val (.int fr), .val (.int to), .val (.int (4 : Int32))] [(.int (0 : Int32))])) _
          exact Steps.refl _)
      obtain rfl := Option.some.inj hM
      obtain ⟨fs, hr, hrun, hended, hW, hsame⟩ := X136.leave (v := some (.int (0 : Int32))) (fun h => by rw [Bd.returns] at h; cases h)
      refine ⟨_, _, q143.trans ?_, hrun, hended, _, _, rfl, ?_, ⟨_, rfl⟩, hW, hsame.mono (by decide) (by decide)⟩
      · exact retN X136 hx (t := .boolean) Bd.returns (by simp) (hb hby at_229) hr
      · show Q_rm0 Z p0 j1 p2 p3 w_HEAD_END vsH _ h0 n0 _ T136.heap _
        rw [e136]
        exact ⟨rfl, N136⟩

theorem own_toInt {x : Nat} (h : x < 1000) : (Int32.ofNat x).toInt = x := Int32.toInt_ofNat_of_lt (by omega)
theorem own_clamp {x : Nat} (h : x < 1000) : (Int32.ofNat x).toNatClampNeg = x := by simp only [Int32.toNatClampNeg, own_toInt h]; omega
theorem own_add (a b : Nat) : Int32.ofNat a + Int32.ofNat b = Int32.ofNat (a + b) := (Int32.ofNat_add a b).symm
theorem own_lt {a b : Nat} (ha : a < 1000) (hb : b < 1000) : (Int32.ofNat a < Int32.ofNat b) ↔ a < b := by rw [Int32.lt_iff_toInt_lt, own_toInt ha, own_toInt hb]; omega
def own_g (xs : List Int32) (c : Nat) : Int32 := xs.getD c 0
theorem own_rd {xs : List Int32} (hx : xs.length = 8) {c : Nat} (hc : c < 8) : Own.rd xs (Int32.ofNat c) = some (own_g xs c) := by
  unfold Own.rd
  rw [hx, own_toInt (by omega), if_pos (by omega)]
  simp [Own.gi, own_clamp (show c < 1000 by omega), own_g]
/-- the four signs stand at c -/
def own_m (xs : List Int32) (c : Nat) : Bool := decide (own_g xs c = 13) && decide (own_g xs (c + 1) = 10) && decide (own_g xs (c + 2) = 13) && decide (own_g xs (c + 3) = 10)
theorem own_hit {xs : List Int32} (hx : xs.length = 8) {a b c : Nat} (ha : a ≤ 8) (hb : b ≤ 8) (hc : c ≤ 4) : M_hit (Int32.ofNat a) (Int32.ofNat b) (Int32.ofNat c) xs = some (if a ≤ c ∧ c + 4 ≤ b ∧ own_m xs c = true then 1 else 0) := by
  unfold M_hit own_m
  rw [show (4 : Int32) = Int32.ofNat 4 from rfl, show (3 : Int32) = Int32.ofNat 3 from rfl, show (2 : Int32) = Int32.ofNat 2 from rfl]
  simp only [own_add, own_lt (show c < 1000 by omega) (show a < 1000 by omega), own_lt (show b < 1000 by omega) (show c + 4 < 1000 by omega)]
  have e1 : Int32.ofNat c + (1 : Int32) = Int32.ofNat (c + 1) := own_add c 1
  simp only [e1, own_rd hx (show c < 8 by omega), own_rd hx (show c + 1 < 8 by omega), own_rd hx (show c + 2 < 8 by omega), own_rd hx (show c + 3 < 8 by omega), Option.bind_some]
  by_cases j1 : c < a
  · rw [if_pos j1, if_neg (by omega)]
  rw [if_neg j1]
  by_cases q2 : b < c + 4
  · rw [if_pos q2, if_neg (by omega)]
  rw [if_neg q2]
  have j1' : a ≤ c := by omega
  have q2' : c + 4 ≤ b := by omega
  simp only [j1', q2', true_and, Bool.and_eq_true, decide_eq_true_eq]
  repeat' split
  all_goals simp_all
theorem own_lpE {xs : List Int32} (hx : xs.length = 8) (k : Nat) {b c : Nat} (hb : b ≤ 8) (hc : c ≤ 100) : M_lpE (k + 1) (Int32.ofNat b) xs (Int32.ofNat c) = if b < c + 4 then some (-1) else if own_m xs c = true then some (Int32.ofNat (c + 4)) else M_lpE k (Int32.ofNat b) xs (Int32.ofNat (c + 1)) := by
  rw [M_lpE]
  rw [show (4 : Int32) = Int32.ofNat 4 from rfl, show (3 : Int32) = Int32.ofNat 3 from rfl, show (2 : Int32) = Int32.ofNat 2 from rfl]
  have e1 : Int32.ofNat c + (1 : Int32) = Int32.ofNat (c + 1) := own_add c 1
  simp only [own_add, own_lt (show b < 1000 by omega) (show c + 4 < 1000 by omega), e1]
  by_cases q : b < c + 4
  · rw [if_pos q, if_pos q]
  rw [if_neg q, if_neg q]
  simp only [own_rd hx (show c < 8 by omega), own_rd hx (show c + 1 < 8 by omega), own_rd hx (show c + 2 < 8 by omega), own_rd hx (show c + 3 < 8 by omega), Option.bind_some]
  unfold own_m
  simp only [Bool.and_eq_true, decide_eq_true_eq]
  repeat' split
  all_goals simp_all
def own_E : Nat → Nat → Nat → (Nat → Bool) → Int32
  | 0, _, _, _ => 0
  | k + 1, b, c, m => if b < c + 4 then -1 else if m c = true then Int32.ofNat (c + 4) else own_E k b (c + 1) m
theorem own_head {xs : List Int32} (hx : xs.length = 8) {b : Nat} (hb : b ≤ 8) (k : Nat) : ∀ c, c ≤ 50 → b < c + k + 4 → M_lpE (k + 1) (Int32.ofNat b) xs (Int32.ofNat c) = some (own_E (k + 1) b c (own_m xs)) := by
  induction k with
  | zero =>
    intro c hc h
    rw [own_lpE hx 0 hb (by omega), own_E, if_pos (by omega), if_pos (by omega)]
  | succ k ih =>
    intro c hc h
    rw [own_lpE hx (k + 1) hb (by omega), own_E]
    by_cases q : b < c + 4
    · rw [if_pos q, if_pos q]
    rw [if_neg q, if_neg q]
    by_cases r : own_m xs c = true
    · rw [if_pos r, if_pos r]
    rw [if_neg r, if_neg r]
    exact ih (c + 1) (by omega) (by omega)
def own_m5 (m0 m1 m2 m3 m4 : Bool) (c : Nat) : Bool := [m0, m1, m2, m3, m4].getD c false
theorem own_E5 (m : Nat → Bool) (b : Nat) (hb : b ≤ 8) (k : Nat) : ∀ c, own_E k b c m = own_E k b c (own_m5 (m 0) (m 1) (m 2) (m 3) (m 4)) := by
  induction k with
  | zero => intro c; rfl
  | succ k ih =>
    intro c
    rw [own_E, own_E]
    by_cases q : b < c + 4
    · rw [if_pos q, if_pos q]
    rw [if_neg q, if_neg q, ih (c + 1)]
    have hc : c = 0 ∨ c = 1 ∨ c = 2 ∨ c = 3 ∨ c = 4 := by omega
    rcases hc with rfl | rfl | rfl | rfl | rfl <;> rfl
def own_C (a b : Nat) (m : Nat → Bool) : Int32 :=
  if (if a ≤ 0 ∧ 0 + 4 ≤ b ∧ m 0 = true then (1 : Int32) else 0) = 0 then
    if (if a ≤ 1 ∧ 1 + 4 ≤ b ∧ m 1 = true then (1 : Int32) else 0) = 0 then
      if (if a ≤ 2 ∧ 2 + 4 ≤ b ∧ m 2 = true then (1 : Int32) else 0) = 0 then
        if (if a ≤ 3 ∧ 3 + 4 ≤ b ∧ m 3 = true then (1 : Int32) else 0) = 0 then
          (if own_E 16 b a m = (if (if a ≤ 4 ∧ 4 + 4 ≤ b ∧ m 4 = true then (1 : Int32) else 0) = 0 then -1 else 8) then 1 else 0)
        else (if own_E 16 b a m = 7 then 1 else 0)
      else (if own_E 16 b a m = 6 then 1 else 0)
    else (if own_E 16 b a m = 5 then 1 else 0)
  else (if own_E 16 b a m = 4 then 1 else 0)
set_option maxRecDepth 100000 in
theorem own_all : ((List.range 9).all fun a => (List.range 9).all fun b => [true, false].all fun m0 => [true, false].all fun m1 => [true, false].all fun m2 => [true, false].all fun m3 => [true, false].all fun m4 => own_C a b (own_m5 m0 m1 m2 m3 m4) == 1) = true := by decide +kernel
theorem own_core {xs : List Int32} (hx : xs.length = 8) {a b : Nat} (ha : a ≤ 8) (hb : b ≤ 8) : M_core (Int32.ofNat a) (Int32.ofNat b) xs = some 1 := by
  have hh : M_head (Int32.ofNat a) (Int32.ofNat b) xs = some (own_E 16 b a (own_m xs)) := own_head hx hb 15 a (by omega) (by omega)
  have h0 := own_hit hx ha hb (show 0 ≤ 4 by omega)
  have h1 := own_hit hx ha hb (show 1 ≤ 4 by omega)
  have h2 := own_hit hx ha hb (show 2 ≤ 4 by omega)
  have h3 := own_hit hx ha hb (show 3 ≤ 4 by omega)
  have h4 := own_hit hx ha hb (show 4 ≤ 4 by omega)
  have hC : M_core (Int32.ofNat a) (Int32.ofNat b) xs = some (own_C a b (own_m xs)) := by
    unfold M_core own_C
    rw [show (0 : Int32) = Int32.ofNat 0 from rfl, show (1 : Int32) = Int32.ofNat 1 from rfl, show (2 : Int32) = Int32.ofNat 2 from rfl, show (3 : Int32) = Int32.ofNat 3 from rfl, show (4 : Int32) = Int32.ofNat 4 from rfl]
    rw [show (0 : Int32) = Int32.ofNat 0 from rfl, show (1 : Int32) = Int32.ofNat 1 from rfl] at h0 h1 h2 h3 h4
    simp only [h0, h1, h2, h3, h4, hh, Option.bind_some]
    repeat' split
    all_goals rfl
  rw [hC]
  congr 1
  have e : own_C a b (own_m xs) = own_C a b (own_m5 (own_m xs 0) (own_m xs 1) (own_m xs 2) (own_m xs 3) (own_m xs 4)) := by
    unfold own_C
    rw [own_E5 (own_m xs) b hb 16 a]
    rfl
  rw [e]
  have h := own_all
  simp only [List.all_eq_true, beq_iff_eq, List.mem_range] at h
  exact h a (by omega) b (by omega) _ (by cases own_m xs 0 <;> simp) _ (by cases own_m xs 1 <;> simp) _ (by cases own_m xs 2 <;> simp) _ (by cases own_m xs 3 <;> simp) _ (by cases own_m xs 4 <;> simp)
theorem own_nine (x : Int32) : ∃ a : Nat, a ≤ 8 ∧ ((x &&& (2147483647 : Int32)) - ((x &&& (2147483647 : Int32)) / (9 : Int32)) * (9 : Int32)) = Int32.ofNat a := by
  have h0 := own_pos x
  have hr := own_rem (x := x &&& 2147483647) (y := 9) (by omega) (by decide)
  rw [show (9 : Int32).toInt = 9 from rfl] at hr
  refine ⟨((x &&& 2147483647).toInt % 9).toNat, by omega, ?_⟩
  apply Int32.toInt_inj.mp
  rw [hr, own_toInt (by omega)]; omega
theorem own_wt8 {xs : List Int32} (hx : xs.length = 8) {c : Nat} (hc : c < 8) (x : Int32) : ∃ ys, Own.wt xs (Int32.ofNat c) x = some ys ∧ ys.length = 8 := by
  unfold Own.wt
  rw [hx, own_toInt (by omega), if_pos (by omega)]
  exact ⟨_, rfl, by simp [Own.si, hx]⟩
theorem own_law (p0 : Int32) (j1 : Int64) (p2 p3 : Int32) : M_law p0 j1 p2 p3 = some 1 := by
  unfold M_law
  rw [show Own.mk 8 (8 : Int32) = some [0, 0, 0, 0, 0, 0, 0, 0] from rfl]
  simp only [Option.bind_some]
  obtain ⟨y0, e0, l0⟩ := own_wt8 (xs := [0, 0, 0, 0, 0, 0, 0, 0]) rfl (show 0 < 8 by omega) (nar .byte (Fp p0 j1 0))
  rw [show Own.wt [0, 0, 0, 0, 0, 0, 0, 0] (0 : Int32) (nar .byte (Fp p0 j1 0)) = some y0 from e0]
  simp only [Option.bind_some]
  obtain ⟨y1, e1, l1⟩ := own_wt8 l0 (show 1 < 8 by omega) (nar .byte (Fp p0 j1 1))
  rw [show Own.wt y0 (1 : Int32) (nar .byte (Fp p0 j1 1)) = some y1 from e1]
  simp only [Option.bind_some]
  obtain ⟨y2, e2, l2⟩ := own_wt8 l1 (show 2 < 8 by omega) (nar .byte (Fp p0 j1 2))
  rw [show Own.wt y1 (2 : Int32) (nar .byte (Fp p0 j1 2)) = some y2 from e2]
  simp only [Option.bind_some]
  obtain ⟨y3, e3, l3⟩ := own_wt8 l2 (show 3 < 8 by omega) (nar .byte (Fp p0 j1 3))
  rw [show Own.wt y2 (3 : Int32) (nar .byte (Fp p0 j1 3)) = some y3 from e3]
  simp only [Option.bind_some]
  obtain ⟨y4, e4, l4⟩ := own_wt8 l3 (show 4 < 8 by omega) (nar .byte (Fp p0 j1 4))
  rw [show Own.wt y3 (4 : Int32) (nar .byte (Fp p0 j1 4)) = some y4 from e4]
  simp only [Option.bind_some]
  obtain ⟨y5, e5, l5⟩ := own_wt8 l4 (show 5 < 8 by omega) (nar .byte (Fp p0 j1 5))
  rw [show Own.wt y4 (5 : Int32) (nar .byte (Fp p0 j1 5)) = some y5 from e5]
  simp only [Option.bind_some]
  obtain ⟨y6, e6, l6⟩ := own_wt8 l5 (show 6 < 8 by omega) (nar .byte (Fp p0 j1 6))
  rw [show Own.wt y5 (6 : Int32) (nar .byte (Fp p0 j1 6)) = some y6 from e6]
  simp only [Option.bind_some]
  obtain ⟨y7, e7, l7⟩ := own_wt8 l6 (show 7 < 8 by omega) (nar .byte (Fp p0 j1 7))
  rw [show Own.wt y6 (7 : Int32) (nar .byte (Fp p0 j1 7)) = some y7 from e7]
  simp only [Option.bind_some]
  obtain ⟨a, ha, ea⟩ := own_nine p2
  obtain ⟨b, hb, eb⟩ := own_nine p3
  rw [ea, eb]
  exact own_core l7 ha hb

set_option maxRecDepth 65536 in
set_option maxHeartbeats 40000000 in
theorem comes_1 {Post : Tables → Env → Array Value → State → Outcome → State → Prop} (hpost : ∀ tb e args s v u, (limb_1_1.after args s (.returned v) u = true ∧ limb_1_2.after args s (.returned v) u = true ∧ True) → FrameEnd s (.returned v) u (Jvm.fieldLocs frame_1_writes args s ++ Jvm.arrayLocs frame_1_arrays args s ++ Jvm.staticLocs frame_1_statics s) 16 128 → Post tb e args s (.returned v) u) :
    ArmFor flags0 classFile x code maxLocals ret World_1 tables_1 room_1 Calls_1 rest_1 Pre_1 Post := by
  intro l hfl _ _ p e ha hc hk s m args below hf hA hF happ hP
  obtain ⟨hcalls, hrest, hpre⟩ := hP
  obtain ⟨-, -, -, hnamed, -, -, -, hat⟩ := (Spec.applies_iff hf).mp happ
  obtain ⟨hg, hn⟩ := and_e (Cond.before_iff.mp (show (Jvm.Cond.and given_1 narrow_1).before args s = true from hpre))
  obtain ⟨hcount, hg0⟩ := and_e hg
  obtain ⟨ga0, hg1⟩ := and_e hg0
  obtain ⟨ga1, hg2⟩ := and_e hg1
  obtain ⟨ga2, hg3⟩ := and_e hg2
  obtain ⟨w0, w1, w2, w3, rfl⟩ : ∃ w0 w1 w2 w3 : Value, args = #[w0, w1, w2, w3] := by
    have hs : args.size = 4 := by simpa [Cond.value, given_1] using hcount
    obtain ⟨L⟩ := args
    match L, hs with
    | [w0, w1, w2, w3], _ => exact ⟨w0, w1, w2, w3, rfl⟩
  have hw := fun d (hd : d ∈ tables_1) => atoms_spec (ws := Jvm.Cond.code x code maxLocals ret :: tables_1) hat d (List.mem_cons_of_mem _ hd)
  have hfit : Fit s := fun {y c} hc i hi => by
    obtain ⟨ha, rfl⟩ := Array.getElem?_eq_some_iff.mp hc
    have q := List.all_eq_true.mp ((Array.all_eq_true_iff_forall_mem.mp hF) _ (Array.getElem_mem ha)) i (List.mem_range.mpr hi)
    simpa [Array.getElem?_eq_getElem hi] using q
  obtain ⟨i0, ei0⟩ := is_v ga0
  obtain rfl : w0 = (.int i0) := Option.some.inj ei0
  obtain ⟨i1, ei1⟩ := isL_v ga1
  obtain rfl : w1 = (.long i1) := Option.some.inj ei1
  obtain ⟨i2, ei2⟩ := is_v ga2
  obtain rfl : w2 = (.int i2) := Option.some.inj ei2
  obtain ⟨i3, ei3⟩ := is_v hg3
  obtain rfl : w3 = (.int i3) := Option.some.inj ei3
  obtain ⟨nl, nr⟩ := and_e hn
  obtain ⟨w_H, ev_H⟩ := arr_v nl
  obtain ⟨cH, AH⟩ := Arr.start ev_H nl
  have aH : s.arrayAt? w_H = some cH := Arr.fin (Z := s) (U := s) (Vm.Alike.refl _) AH
  have S_H : Sta s s.heap "com/example/lettr/lettr/bench/Opening" "HEAD_END" "[B" (.ref w_H) := Sta.start ev_H (Or.inr ⟨(hw _ (List.mem_of_getElem? (i := 11) rfl)), (hw _ (List.mem_of_getElem? (i := 14) rfl))⟩)
  obtain ⟨szH, lzH⟩ := own_size ev_H aH (own_eqint nr)
  obtain ⟨n, o, h1, h2, h3, _, L, rfl, ⟨rfl, N⟩, hq⟩ := rm0 l s _ hw tables_1 i0 i1 i2 i3 w_H cH.slots.toList (1 : Int32) s.heap s.heap.size (Nat.le_refl _) S_H (own_av AH szH) (by rw [Array.length_toList]; exact lzH) (own_law i0 i1 i2 i3) p e ha hc hk s m _ below hf ((Spec.applies_iff_loose hf).mp happ).1 ⟨rfl, State.Warmed39.refl s, rfl⟩ trivial
  refine ⟨n, _, h1, h2, h3, hpost _ _ _ _ _ _ ⟨Cond.after_iff.mpr rfl, Cond.after_iff.mpr (eq_i res_at (Term.int_eval (1)) rfl), trivial⟩ ⟨hq.1, hq.2.1, (hq.2.2.sift fun y hy => Or.inr (N y hy)).mono (by decide) (by decide)⟩⟩
theorem main_1_1 : Claimed_1_1 := comes_1 fun _ _ _ _ _ _ h hF => ⟨h.1, hF⟩
theorem main_1_2 : Claimed_1_2 := comes_1 fun _ _ _ _ _ _ h hF => ⟨h.2.1, hF⟩
end Jvm.Pilot.@@N@@
namespace Jvm.Pilot.@@N@@
open Jvm Jvm.ClassFile Sem Op Lib Jvm.Free Jvm.Stand Jvm.Pilot.@@N@@.Jvm.D
/-! MADE BY PROGRAM (witnessworld.py) out of the Statement's table words and the real class files: 9 classes; the members and pool entries that the words name. The judged class is class 1, her method 3. -/
namespace start1
open Jvm.ClassFile
def u (s : String) : CpInfo := .utf8 (stringToUtf16 s)
/-- a pool by its gaps: so many unusable entries, then the entry; so many at the end -/
def gap : Nat → List CpInfo → List CpInfo
  | 0, r => r
  | n + 1, r => .unusable :: gap n r
def poolList (es : List (Nat × CpInfo)) (last : Nat) : List CpInfo := es.foldr (fun e r => gap e.1 (e.2 :: r)) (gap last [])
def pool (es : List (Nat × CpInfo)) (last : Nat) : Array CpInfo := ⟨poolList es last⟩
def fileOf (pool : Array CpInfo) (this : Nat) (attrs : Array Attribute := #[]) (ms : Array MethodInfo := #[]) (fl : Nat := 33) (sup : Nat := 0) (ifs : Array Nat := #[]) (fds : Array FieldInfo := #[]) : ClassFile where
  minorVersion := 0
  majorVersion := 65
  constantPool := pool
  accessFlags := fl
  thisClass := this
  superClass := sup
  interfaces := ifs
  fields := fds
  methods := ms
  attributes := attrs
def plain (name : String) (sup : Option ClassId) : Class where
  name := name
  kind := .ordinary
  loader := none
  accessFlags := 33
  super := sup
  interfaces := #[]
  cf := none
  fields := #[]
  methods := #[]
  instanceTypes := #[]
  staticTypes := #[]
  resolved := #[]
  callSites := []
  init := .initialized
  statics := none
  mirror := none

def pool0 : Array CpInfo := pool [(5, u "<init>"), (0, u "()V"), (1, .class_ 10), (1, u "java/lang/Object")] 113

def k0m0 : Method := { name := "<init>", desc := "()V", sig := { parameters := [], returnType := none }, accessFlags := 1, code := none }
/-- java/lang/Object -/
def k0 : Class := { plain "java/lang/Object" none with
  accessFlags := 33
  interfaces := #[]
  cf := some (fileOf pool0 8 #[] #[{ accessFlags := 1, nameIndex := 5, descriptorIndex := 6, attributes := #[] }] 33 0 #[] #[])
  fields := #[]
  methods := #[k0m0]
  instanceTypes := #[]
  staticTypes := #[]
  resolved := Array.replicate 124 none
  statics := none }

def pool1 : Array CpInfo := pool [(2, .class_ 4), (1, u "java/lang/Object"), (0, u "<init>"), (0, u "()V"), (0, .methodref 8 9), (0, .class_ 10), (0, .nameAndType 11 12), (0, u "com/example/lettr/lettr/bench/OpeningHeadEndPinLaw"), (0, u "pick"), (0, u "(IJI)B"), (0, .integer 2147483647), (0, .methodref 8 15), (0, .nameAndType 16 17), (0, u "hit"), (0, u "([BIII)Z"), (0, .methodref 19 20), (0, .class_ 21), (0, .nameAndType 22 23), (0, u "com/example/lettr/lettr/bench/Opening"), (0, u "headEnd"), (0, u "([BII)I"), (3, u "law"), (0, u "(IJII)Z")] 4

def k1m0 : Method := { name := "<init>", desc := "()V", sig := { parameters := [], returnType := none }, accessFlags := 1, code := none }
def k1c1 : Code := { maxStack := 4, maxLocals := 5, code := method_2_code, exceptionTable := #[], attributes := #[] }
def k1m1 : Method := { name := "pick", desc := "(IJI)B", sig := { parameters := [.int, .long, .int], returnType := some .byte }, accessFlags := 10, code := some k1c1 }
def k1c2 : Code := { maxStack := 3, maxLocals := 4, code := method_3_code, exceptionTable := #[], attributes := #[] }
def k1m2 : Method := { name := "hit", desc := "([BIII)Z", sig := { parameters := [(.array .byte), .int, .int, .int], returnType := some .boolean }, accessFlags := 10, code := some k1c2 }
def k1c3 : Code := { maxStack := 6, maxLocals := 9, code := code, exceptionTable := #[], attributes := #[] }
def k1m3 : Method := { name := "law", desc := "(IJII)Z", sig := { parameters := [.int, .long, .int, .int], returnType := some .boolean }, accessFlags := 9, code := some k1c3 }
/-- com/example/lettr/lettr/bench/OpeningHeadEndPinLaw -/
def k1 : Class := { plain "com/example/lettr/lettr/bench/OpeningHeadEndPinLaw" (some 0) with
  accessFlags := 49
  interfaces := #[]
  cf := some (fileOf pool1 8 #[] #[{ accessFlags := 1, nameIndex := 5, descriptorIndex := 6, attributes := #[] }, { accessFlags := 10, nameIndex := 11, descriptorIndex := 12, attributes := #[] }, { accessFlags := 10, nameIndex := 16, descriptorIndex := 17, attributes := #[] }, { accessFlags := 9, nameIndex := 27, descriptorIndex := 28, attributes := #[] }] 49 2 #[] #[])
  fields := #[]
  methods := #[k1m0, k1m1, k1m2, k1m3]
  instanceTypes := #[]
  staticTypes := #[]
  resolved := Array.replicate 33 none
  statics := none }

def pool2 : Array CpInfo := pool [(2, .class_ 4), (1, u "java/lang/Object"), (2, .class_ 8), (0, u "com/example/lettr/lettr/bench/Opening"), (24, u "accept"), (0, u "Ljava/lang/String;"), (47, u "request"), (0, u "[B"), (0, .fieldref 7 85), (0, .nameAndType 86 83), (0, u "HEAD_END"), (117, u "MAX_HEAD_BYTES"), (0, u "I"), (2, u "SUBPROTOCOL"), (0, u "ACCEPT_GUID"), (2, u "KEY_BYTES"), (1, u "SWITCHING_PROTOCOLS"), (7, u "headEnd"), (0, u "([BII)I")] 32

def k2c0 : Code := { maxStack := 3, maxLocals := 4, code := prog_8_method_3_code, exceptionTable := #[], attributes := #[] }
def k2m0 : Method := { name := "headEnd", desc := "([BII)I", sig := { parameters := [(.array .byte), .int, .int], returnType := some .int }, accessFlags := 8, code := some k2c0 }
/-- com/example/lettr/lettr/bench/Opening -/
def k2 : Class := { plain "com/example/lettr/lettr/bench/Opening" (some 0) with
  accessFlags := 48
  interfaces := #[]
  cf := some (fileOf pool2 7 #[] #[{ accessFlags := 8, nameIndex := 222, descriptorIndex := 223, attributes := #[] }] 48 2 #[] #[{ accessFlags := 24, nameIndex := 204, descriptorIndex := 205, attributes := #[] }, { accessFlags := 26, nameIndex := 208, descriptorIndex := 34, attributes := #[] }, { accessFlags := 26, nameIndex := 209, descriptorIndex := 34, attributes := #[] }, { accessFlags := 26, nameIndex := 212, descriptorIndex := 205, attributes := #[] }, { accessFlags := 26, nameIndex := 214, descriptorIndex := 205, attributes := #[] }, { accessFlags := 26, nameIndex := 86, descriptorIndex := 83, attributes := #[] }, { accessFlags := 18, nameIndex := 33, descriptorIndex := 34, attributes := #[] }, { accessFlags := 18, nameIndex := 82, descriptorIndex := 83, attributes := #[] }])
  fields := #[{ name := "MAX_HEAD_BYTES", type := .int, accessFlags := 24, slot := 0, constantValue := 0 }, { name := "SUBPROTOCOL", type := (.object "java/lang/String"), accessFlags := 26, slot := 1, constantValue := 0 }, { name := "ACCEPT_GUID", type := (.object "java/lang/String"), accessFlags := 26, slot := 2, constantValue := 0 }, { name := "KEY_BYTES", type := .int, accessFlags := 26, slot := 3, constantValue := 0 }, { name := "SWITCHING_PROTOCOLS", type := .int, accessFlags := 26, slot := 4, constantValue := 0 }, { name := "HEAD_END", type := (.array .byte), accessFlags := 26, slot := 5, constantValue := 0 }, { name := "accept", type := (.object "java/lang/String"), accessFlags := 18, slot := 0, constantValue := 0 }, { name := "request", type := (.array .byte), accessFlags := 18, slot := 1, constantValue := 0 }]
  methods := #[k2m0]
  instanceTypes := #[(.object "java/lang/String"), (.array .byte)]
  staticTypes := #[.int, (.object "java/lang/String"), (.object "java/lang/String"), .int, .int, (.array .byte)]
  resolved := Array.replicate 256 none
  statics := some 0 }

def pool3 : Array CpInfo := pool [(1, u "java/lang/Cloneable"), (0, .class_ 1), (0, u "java/lang/Object"), (0, .class_ 3)] 3

/-- java/lang/Cloneable -/
def k3 : Class := { plain "java/lang/Cloneable" (some 0) with
  accessFlags := 1537
  interfaces := #[]
  cf := some (fileOf pool3 2 #[] #[] 1537 4 #[] #[])
  fields := #[]
  methods := #[]
  instanceTypes := #[]
  staticTypes := #[]
  resolved := Array.replicate 8 none
  statics := none }

def pool4 : Array CpInfo := pool [(1, u "java/io/Serializable"), (0, .class_ 1), (0, u "java/lang/Object"), (0, .class_ 3)] 3

/-- java/io/Serializable -/
def k4 : Class := { plain "java/io/Serializable" (some 0) with
  accessFlags := 1537
  interfaces := #[]
  cf := some (fileOf pool4 2 #[] #[] 1537 4 #[] #[])
  fields := #[]
  methods := #[]
  instanceTypes := #[]
  staticTypes := #[]
  resolved := Array.replicate 8 none
  statics := none }

/-- the primitive byte -/
def k5 : Class := { plain "byte" none with kind := .primitive 'B', accessFlags := 0x411 }
/-- [B -/
def k6 : Class := { plain "[B" (some 0) with kind := .array 5 .byte, interfaces := #[3, 4], accessFlags := 1041 }

/-- the primitive int -/
def k7 : Class := { plain "int" none with kind := .primitive 'I', accessFlags := 0x411 }
/-- [I -/
def k8 : Class := { plain "[I" (some 0) with kind := .array 7 .int, interfaces := #[3, 4], accessFlags := 1041 }

def heap : Heap := #[{ cls := 2, slots := #[.int 0, .null, .null, .int 0, .int 0, .ref 1], vm := .statics 2 },
  { cls := 6, slots := #[.int 13, .int 10, .int 13, .int 10], vm := .none }]
def classes : Array Class := #[k0, k1, k2, k3, k4, k5, k6, k7, k8]
def interned : List (Array UInt16 × Addr) := []
def slotsUsed : Nat := 10
def theMethod : MethodId := ⟨1, 3⟩
def args0 : Array Value := #[.int 27, .long 90, .int 5, .int 3]
def aboutOver (below : List Frame) : State where
  vm := { classes := classes, interned := interned.toArray }
  heap := heap
  slotsUsed := slotsUsed
  threads := #[{ frames := .invoking theMethod args0 :: below }]
def below0 : List Frame := [.native { method := ⟨0, 0⟩, args := #[] }]
def about1 : State := aboutOver below0
def p0 : Program := .bare "" "" ""
def e0 : Env := launch0.env 0 0 0
theorem w_frames : about1.frames = Frame.invoking theMethod args0 :: below0 := rfl
set_option maxRecDepth 65536 in
theorem w_args : argsFit about1.vm theMethod args0 = true := by decide +kernel
set_option maxRecDepth 65536 in
theorem w_heap : heapFits about1 = true := by decide +kernel
set_option maxRecDepth 65536 in
theorem w_runnable : about1.curStatus? = some .runnable := by decide +kernel
set_option maxRecDepth 65536 in
theorem w_alone : about1.alone = true := by decide +kernel
set_option maxRecDepth 65536 in
theorem w_named : about1.methodNamed? x = some theMethod := by decide +kernel
set_option maxRecDepth 65536 in
theorem w_hears : about1.hears theMethod below0 = true := by decide +kernel
set_option maxRecDepth 65536 in
theorem w_ripe : about1.ripe theMethod args0 below0 = true := by decide +kernel
theorem w_running : about1.status = .running := rfl
set_option maxRecDepth 65536 in
theorem w_room : about1.hasRoom e0.platform room_1 = true :=
  launch0.hasRoom_least _ room_1 (by decide +kernel) (by decide +kernel) (by decide +kernel) (by decide +kernel) (by decide +kernel) (by decide +kernel)
theorem allAtoms_all (ts : List Jvm.Cond) (a : Array Jvm.Value) (st : Jvm.State) : (allAtoms ts).before a st = ts.all (fun c => c.before a st) := by
  induction ts with
  | nil => rfl
  | cons c t ih =>
    show (Jvm.Cond.and c (allAtoms t)).before a st = _
    rw [Jvm.Cond.before_and, ih, List.all_cons]
def words1 : List Jvm.Cond := Jvm.Cond.code x code maxLocals ret :: tables_1
/-- a 'code' word, met by the world's own term for the bytes: nothing is compared byte by byte -/
theorem code_word {y : MethodName} {bytes : ByteArray} {mx : Nat} {rt : Option FieldType} {a : Array Value} {s : State} {m : MethodId} {meth : Method} {c : Code} (h1 : s.methodNamed? y = some m) (h2 : s.vm.method? m = some meth) (h3 : meth.code = some c) (h4 : c.code = bytes)
    (h5 : (c.maxLocals == mx && c.exceptionTable.isEmpty && decide (c.maxStack ≤ mostOperands) && decide (meth.sig.returnType = rt) && !meth.locks && decide (parseMethodDescriptor y.desc = some meth.sig)) = true) : (Jvm.Cond.code y bytes mx rt).before a s = true := by
  simp only [Bool.and_eq_true, beq_iff_eq, Bool.not_eq_true', decide_eq_true_eq] at h5
  obtain ⟨⟨⟨⟨⟨g1, g2⟩, g3⟩, g4⟩, g5⟩, g6⟩ := h5
  simp [Cond.before, Cond.holds, Cond.value, h1, h2, h3, h4, g1, g2, g3, g4, g5, g6]
def isCode : Jvm.Cond → Bool
  | .code _ _ _ _ => true
  | _ => false
theorem all_split {L : List Jvm.Cond} {P : Jvm.Cond → Bool} (h1 : L.all (fun c => isCode c || P c) = true) (h2 : ∀ c ∈ L.filter isCode, P c = true) : L.all P = true := by
  refine List.all_eq_true.mpr fun c hc => ?_
  have h := List.all_eq_true.mp h1 c hc
  rcases Bool.eq_false_or_eq_true (isCode c) with hi | hi
  · exact h2 c (List.mem_filter.mpr ⟨hc, hi⟩)
  · simpa [hi] using h
set_option maxRecDepth 65536 in
theorem w_c0 : (Jvm.Cond.code x code maxLocals ret).before args0 about1 = true := code_word (m := ⟨1, 3⟩) (meth := k1m3) (c := k1c3) (by decide +kernel) rfl rfl rfl (by decide +kernel)
set_option maxRecDepth 65536 in
theorem w_c1 : (Jvm.Cond.code ({ cls := "com/example/lettr/lettr/bench/OpeningHeadEndPinLaw", name := "pick", desc := "(IJI)B" } : Jvm.MethodName) method_2_code (5 : Nat) (Option.some Jvm.ClassFile.FieldType.byte)).before args0 about1 = true := code_word (m := ⟨1, 1⟩) (meth := k1m1) (c := k1c1) (by decide +kernel) rfl rfl rfl (by decide +kernel)
set_option maxRecDepth 65536 in
theorem w_c2 : (Jvm.Cond.code ({ cls := "com/example/lettr/lettr/bench/OpeningHeadEndPinLaw", name := "hit", desc := "([BIII)Z" } : Jvm.MethodName) method_3_code (4 : Nat) (Option.some Jvm.ClassFile.FieldType.boolean)).before args0 about1 = true := code_word (m := ⟨1, 2⟩) (meth := k1m2) (c := k1c2) (by decide +kernel) rfl rfl rfl (by decide +kernel)
set_option maxRecDepth 65536 in
theorem w_c3 : (Jvm.Cond.code ({ cls := "com/example/lettr/lettr/bench/Opening", name := "headEnd", desc := "([BII)I" } : Jvm.MethodName) prog_8_method_3_code (4 : Nat) (Option.some Jvm.ClassFile.FieldType.int)).before args0 about1 = true := code_word (m := ⟨2, 0⟩) (meth := k2m0) (c := k2c0) (by decide +kernel) rfl rfl rfl (by decide +kernel)
def codes1 : List Jvm.Cond := [Jvm.Cond.code x code maxLocals ret, Jvm.Cond.code ({ cls := "com/example/lettr/lettr/bench/OpeningHeadEndPinLaw", name := "pick", desc := "(IJI)B" } : Jvm.MethodName) method_2_code (5 : Nat) (Option.some Jvm.ClassFile.FieldType.byte), Jvm.Cond.code ({ cls := "com/example/lettr/lettr/bench/OpeningHeadEndPinLaw", name := "hit", desc := "([BIII)Z" } : Jvm.MethodName) method_3_code (4 : Nat) (Option.some Jvm.ClassFile.FieldType.boolean), Jvm.Cond.code ({ cls := "com/example/lettr/lettr/bench/Opening", name := "headEnd", desc := "([BII)I" } : Jvm.MethodName) prog_8_method_3_code (4 : Nat) (Option.some Jvm.ClassFile.FieldType.int)]
set_option maxRecDepth 65536 in
theorem codes_eq : words1.filter isCode = codes1 := rfl
theorem w_codes : ∀ c ∈ words1.filter isCode, c.before args0 about1 = true := by
  rw [codes_eq]
  intro c hc
  simp only [codes1, List.mem_cons, List.not_mem_nil, or_false] at hc
  rcases hc with rfl | rfl | rfl | rfl
  · exact w_c0
  · exact w_c1
  · exact w_c2
  · exact w_c3
set_option maxRecDepth 65536 in
theorem w_t1 : words1.all (fun c => isCode c || c.before args0 about1) = true := by decide +kernel
theorem w_tables : (allAtoms (Jvm.Cond.code x code maxLocals ret :: tables_1)).before args0 about1 = true := by
  rw [allAtoms_all]
  show words1.all (fun c => c.before args0 about1) = true
  refine all_split ?_ w_codes
  rw [w_t1]
set_option maxRecDepth 65536 in
theorem w_case : (Jvm.Cond.and given_1 narrow_1).before args0 about1 = true := by decide +kernel
theorem w_applies : (headSpec (Jvm.Cond.code x code maxLocals ret :: tables_1) room_1).applies x e0.platform about1 = true :=
  (Spec.applies_iff w_frames).mpr ⟨w_running, w_runnable, w_alone, w_named, w_hears, w_ripe, w_room, w_tables⟩
theorem atStart : AtStart classFile x code maxLocals ret World_1 tables_1 room_1 Calls_1 rest_1 Pre_1 launch0 p0 e0 about1 theMethod args0 below0 :=
  ⟨lists_1, trivial, launch0.admits_env _ _ _, launch0.least_env, fairChoices_fair.cas, fairChoices_fair.clock, w_frames, w_args, w_heap, w_applies, trivial, trivial, w_case⟩
end start1
theorem witness_1 : WitnessClaimed_1 := ⟨start1.p0, start1.e0, start1.about1, start1.theMethod, start1.args0, start1.below0, start1.atStart⟩
end Jvm.Pilot.@@N@@
