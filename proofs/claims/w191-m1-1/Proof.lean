import JvmDerived
import JvmDerived.Pilot.@@N@@Statement
import JvmDerived.Pilot.@@N@@Code
set_option linter.unusedVariables false
set_option linter.unusedSimpArgs false
@@BLOCK:NumsL.lean.txt@@
namespace Jvm.Own
open Sem ClassFile Op Lib Jvm.Stand Jvm.Free Jvm.LawKit Jvm.RoadKit
section Arrays
variable {p : Program} {l : Launch} {e : Env} {R : Room} {s : State} {m : MethodId} {args : Array Value} {below : List Frame} {meth : Method} {c : Code} {T : State} {locs : List Loc} {cells slots : Nat} {Z : State} {h h' h0 : Heap} {a b : Addr} {ty : FieldType} {vs : List Value} {xs : List Int32} {v : Value} {sl : Nat} {ws : List Addr}
/-- the array at a: of the kind ty, its components vs -/
def AV (Z : State) (h : Heap) (a : Addr) (ty : FieldType) (vs : List Value) : Prop := ∃ c : Cell, Arr Z h a c ty ∧ c.slots = vs.toArray ∧ vs.length < 2147483648
/-- an int array -/
def IA (Z : State) (h : Heap) (a : Addr) (xs : List Int32) : Prop := AV Z h a .int (xs.map Value.int)
theorem AV.lt (F : AV Z h a ty vs) : a < h.size := by obtain ⟨c, A, -⟩ := F; exact A.lt
theorem AV.ext (F : AV Z h a ty vs) (E : Ext h h') : AV Z h' a ty vs := by obtain ⟨c, A, r⟩ := F; exact ⟨c, A.ext E, r⟩
theorem AV.other (F : AV Z h b ty vs) (W : Wr h h' a sl v) (q : b ≠ a) : AV Z h' b ty vs := by obtain ⟨c, A, r⟩ := F; exact ⟨c, A.other W q, r⟩
theorem AV.keep (F : AV Z h a ty vs) (K : Keep h h' ws) (q : a ∉ ws) : AV Z h' a ty vs := by obtain ⟨c, A, r⟩ := F; exact ⟨c, ⟨K.2.1 a c A.1 q, A.2⟩, r⟩
theorem AV.wr (F : AV Z h a ty vs) (W : Wr h h' a sl v) : AV Z h' a ty (vs.set sl v) := by
  obtain ⟨c, A, q, n⟩ := F
  exact ⟨_, A.same W, by simp [Cell.setSlot, q], by simpa using n⟩
theorem clamp_lt (z : Int32) : z.toNatClampNeg < 2147483648 := by
  have := z.toInt_lt
  simp only [Int32.toNatClampNeg]; omega
theorem AV.new {k : ClassId} {z : Int32} (A : Arr Z h a (newA k ty z) ty) (q : List.replicate z.toNatClampNeg (defaultValue ty) = vs) : AV Z h a ty vs := by
  subst q
  exact ⟨_, A, by simp [newA], by rw [List.length_replicate]; exact clamp_lt z⟩
theorem IA.lt (F : IA Z h a xs) : a < h.size := AV.lt F
theorem IA.ext (F : IA Z h a xs) (E : Ext h h') : IA Z h' a xs := AV.ext F E
theorem IA.other (F : IA Z h b xs) (W : Wr h h' a sl v) (q : b ≠ a) : IA Z h' b xs := AV.other F W q
theorem IA.keep (F : IA Z h a xs) (K : Keep h h' ws) (q : a ∉ ws) : IA Z h' a xs := AV.keep F K q
theorem IA.new {k : ClassId} {z : Int32} (A : Arr Z h a (newA k .int z) .int) {n : Nat} (q : z.toNatClampNeg = n) : IA Z h a (List.replicate n (0 : Int32)) := AV.new A (by subst q; rw [List.map_replicate]; rfl)
theorem IA.wr {x : Int32} (F : IA Z h a xs) (W : Wr h h' a sl (.int x)) : IA Z h' a (xs.set sl x) := by
  have := AV.wr F W
  rw [← List.map_set] at this; exact this
/-- the place j of an int array; the array with x there -/
def gi (xs : List Int32) (j : Int32) : Int32 := xs.getD j.toNatClampNeg 0
def si (xs : List Int32) (j x : Int32) : List Int32 := xs.set j.toNatClampNeg x
theorem si_len (xs : List Int32) (j x : Int32) : (si xs j x).length = xs.length := by simp [si]
theorem clamp_of {j : Int32} {n : Nat} (hj : 0 ≤ j.toInt ∧ j.toInt < (n : Int)) : j.toNatClampNeg < n ∧ ¬ j < 0 := by
  obtain ⟨h1, h2⟩ := hj
  refine ⟨by simp only [Int32.toNatClampNeg]; omega, ?_⟩
  rw [Int32.lt_iff_toInt_lt]; show ¬ _ < (0 : Int); omega
theorem inb_of' {cl : Cell} {j : Int32} {n : Nat} (hn : cl.slots.size = n) (hj : 0 ≤ j.toInt ∧ j.toInt < (n : Int)) : ¬ (j < 0 ∨ cl.slots.size ≤ j.toNatClampNeg) := by
  obtain ⟨h1, h2⟩ := clamp_of hj
  rintro (q | q)
  · exact h2 q
  · omega
theorem ldI (X : Stand p l e R s m args below meth c T locs cells slots) (hx : p.tables.exec = Jvm.exec) (hZ : Z.Warmed39 s.vm) (eT : T.heap = h) (F : IA Z h a xs) {j : Int32} (n : Nat) (hl : xs.length = n) (hj : 0 ≤ j.toInt ∧ j.toInt < (n : Int)) {g : JFrame} (hg : g.method = m) {rest : List Value} (hs : g.stack = .int j :: .ref a :: rest) (hd : decode c.code g.pc = .ok (.iaload, 1)) :
    ∀ target, Steps p.tables e below (T.setTop { g with pc := g.pc + 1, stack := .int (gi xs j) :: rest }) target → Steps p.tables e below (T.setTop g) target := by
  obtain ⟨cl, A, q, r⟩ := F
  have hsz : cl.slots.size = n := by rw [q]; simp [hl]
  have hi := (clamp_of hj).1
  refine X.iaload hx (v := .int (gi xs j)) (by rw [eT]; exact A.1) (State.isArrayOf_alike hZ.alike A.2.1) A.2.2 (inb_of' hsz hj) ?_ hg hs hd
  rw [q]
  have : j.toNatClampNeg < xs.length := by omega
  simp [gi, List.getD_eq_getElem?_getD, this]
theorem lnV (X : Stand p l e R s m args below meth c T locs cells slots) (hx : p.tables.exec = Jvm.exec) (hZ : Z.Warmed39 s.vm) (eT : T.heap = h) (F : AV Z h a ty vs) {z : Int32} (hz : vs.length.toInt32 = z) {g : JFrame} (hg : g.method = m) {rest : List Value} (hs : g.stack = .ref a :: rest) (hd : decode c.code g.pc = .ok (.arraylength, 1)) :
    ∀ target, Steps p.tables e below (T.setTop { g with pc := g.pc + 1, stack := .int z :: rest }) target → Steps p.tables e below (T.setTop g) target := by
  obtain ⟨cl, A, q, r⟩ := F
  intro target k
  refine X.arraylength hx (by rw [eT]; exact A.1) (State.isArrayOf_alike hZ.alike A.2.1) hg hs hd _ ?_
  have : cl.slots.size.toInt32 = z := by rw [q]; simpa using hz
  rw [this]; exact k
theorem lnI (X : Stand p l e R s m args below meth c T locs cells slots) (hx : p.tables.exec = Jvm.exec) (hZ : Z.Warmed39 s.vm) (eT : T.heap = h) (F : IA Z h a xs) {z : Int32} (hz : xs.length.toInt32 = z) {g : JFrame} (hg : g.method = m) {rest : List Value} (hs : g.stack = .ref a :: rest) (hd : decode c.code g.pc = .ok (.arraylength, 1)) :
    ∀ target, Steps p.tables e below (T.setTop { g with pc := g.pc + 1, stack := .int z :: rest }) target → Steps p.tables e below (T.setTop g) target :=
  lnV X hx hZ eT F (by rw [List.length_map]; exact hz) hg hs hd
theorem stIA (X : Stand p l e R s m args below meth c T locs cells slots) (hx : p.tables.exec = Jvm.exec) (hZ : Z.Warmed39 s.vm) (eT : T.heap = h) (F : IA Z h a xs) {j x : Int32} (n : Nat) (hl : xs.length = n) (hj : 0 ≤ j.toInt ∧ j.toInt < (n : Int)) {g : JFrame} (hg : g.method = m) {rest : List Value} (hs : g.stack = .int x :: .int j :: .ref a :: rest) (hd : decode c.code g.pc = .ok (.iastore, 1)) :
    ∃ T' h', Stand p l e R s m args below meth c T' (locs ++ [⟨a, j.toNatClampNeg⟩]) cells slots ∧ T'.heap = h' ∧ Wr h h' a j.toNatClampNeg (.int x) ∧ IA Z h' a (si xs j x) ∧ ∀ target, Steps p.tables e below (T'.setTop { g with pc := g.pc + 1, stack := rest }) target → Steps p.tables e below (T.setTop g) target := by
  have F0 := F
  obtain ⟨cl, A, q, r⟩ := F
  have hsz : cl.slots.size = n := by rw [q]; simp [hl]
  obtain ⟨T', h', X', e', W, st⟩ := stI X hx hZ eT A (inb_of' hsz hj) hg hs hd
  exact ⟨T', h', X', e', W, IA.wr F0 W, st⟩
/-- a place read or written, where it lies in the array; a fresh array of at most cap places -/
def rd (xs : List Int32) (j : Int32) : Option Int32 := if 0 ≤ j.toInt ∧ j.toInt < (xs.length : Int) then some (gi xs j) else none
def wt (xs : List Int32) (j x : Int32) : Option (List Int32) := if 0 ≤ j.toInt ∧ j.toInt < (xs.length : Int) then some (si xs j x) else none
def mk (cap : Nat) (n : Int32) : Option (List Int32) := if 0 ≤ n.toInt ∧ n.toInt ≤ (cap : Int) then some (List.replicate n.toNatClampNeg 0) else none
def ln (xs : List Int32) : Int32 := xs.length.toInt32
theorem rd_some {xs : List Int32} {j v : Int32} (q : rd xs j = some v) : (0 ≤ j.toInt ∧ j.toInt < (xs.length : Int)) ∧ gi xs j = v := by
  unfold rd at q
  split at q
  · next h => exact ⟨h, Option.some.inj q⟩
  · cases q
theorem wt_some {xs ys : List Int32} {j x : Int32} (q : wt xs j x = some ys) : (0 ≤ j.toInt ∧ j.toInt < (xs.length : Int)) ∧ si xs j x = ys := by
  unfold wt at q
  split at q
  · next h => exact ⟨h, Option.some.inj q⟩
  · cases q
theorem mk_some {cap : Nat} {n : Int32} {ys : List Int32} (q : mk cap n = some ys) : ¬ n < 0 ∧ n.toNatClampNeg ≤ cap ∧ ys = List.replicate n.toNatClampNeg 0 := by
  unfold mk at q
  split at q
  · next h =>
    refine ⟨?_, ?_, (Option.some.inj q).symm⟩
    · rw [Int32.lt_iff_toInt_lt]; show ¬ _ < (0 : Int); omega
    · simp only [Int32.toNatClampNeg]; omega
  · cases q
theorem ldO (X : Stand p l e R s m args below meth c T locs cells slots) (hx : p.tables.exec = Jvm.exec) (hZ : Z.Warmed39 s.vm) (eT : T.heap = h) (F : IA Z h a xs) {j x : Int32} (q : rd xs j = some x) {g : JFrame} (hg : g.method = m) {rest : List Value} (hs : g.stack = .int j :: .ref a :: rest) (hd : decode c.code g.pc = .ok (.iaload, 1)) :
    ∀ target, Steps p.tables e below (T.setTop { g with pc := g.pc + 1, stack := .int x :: rest }) target → Steps p.tables e below (T.setTop g) target := by
  obtain ⟨hb, rfl⟩ := rd_some q
  exact ldI X hx hZ eT F xs.length rfl hb hg hs hd
theorem stO (X : Stand p l e R s m args below meth c T locs cells slots) (hx : p.tables.exec = Jvm.exec) (hZ : Z.Warmed39 s.vm) (eT : T.heap = h) (F : IA Z h a xs) {j x : Int32} {ys : List Int32} (q : wt xs j x = some ys) {g : JFrame} (hg : g.method = m) {rest : List Value} (hs : g.stack = .int x :: .int j :: .ref a :: rest) (hd : decode c.code g.pc = .ok (.iastore, 1)) :
    ∃ T' h', Stand p l e R s m args below meth c T' (locs ++ [⟨a, j.toNatClampNeg⟩]) cells slots ∧ T'.heap = h' ∧ Wr h h' a j.toNatClampNeg (.int x) ∧ IA Z h' a ys ∧ ∀ target, Steps p.tables e below (T'.setTop { g with pc := g.pc + 1, stack := rest }) target → Steps p.tables e below (T.setTop g) target := by
  obtain ⟨hb, rfl⟩ := wt_some q
  exact stIA X hx hZ eT F xs.length rfl hb hg hs hd
theorem IA.fit {c : Cell} (A : Arr Z h a c .int) (q : c.slots = (xs.map Value.int).toArray) : FitC Z c := fitC_of A fun i hi v hv => by
  rw [q] at hv
  simp at hv
  obtain ⟨x, -, rfl⟩ := hv
  rfl
theorem clI (X : Stand p l e R s m args below meth c T locs cells slots) (hx : p.tables.exec = Jvm.exec) (hZ : Z.Warmed39 s.vm) {a0 : Array Value} {own : String} {index : Nat} (hown : s.vm.findClass own = some m.cls)
    (w1 : (Cond.methodLink own index ⟨"[I", "clone", "()Ljava/lang/Object;"⟩).before a0 Z = true) (w2 : (Cond.sameMethod "[I" "java/lang/Object" "clone" "()Ljava/lang/Object;").before a0 Z = true) (w3 : (Cond.native ⟨"java/lang/Object", "clone", "()Ljava/lang/Object;"⟩).before a0 Z = true)
    (w4 : (Cond.instanceMethod ⟨"java/lang/Object", "clone", "()Ljava/lang/Object;"⟩).before a0 Z = true) (w5 : (Cond.selects "[I" ⟨"[I", "clone", "()Ljava/lang/Object;"⟩ ⟨"java/lang/Object", "clone", "()Ljava/lang/Object;"⟩).before a0 Z = true) (w6 : (Cond.castable "[I" "java/lang/Cloneable").before a0 Z = true)
    (eT : T.heap = h) (F : IA Z h a xs) (E : Exa Z h a "[I") {g : JFrame} (hg : g.method = m) (hsize : g.locals.size = c.maxLocals) {rest : List Value} (hs : g.stack = .ref a :: rest) (hd : decode c.code g.pc = .ok (.invokevirtual index, 3))
    (hf : 1 ≤ R.frames) {W cap : Nat} (hW : 2 * g.monitorRoom + (rest.map fun v => v.category).sum ≤ W) (hl : W + 14 ≤ R.locals) (hcap : xs.length ≤ cap) (hc : cells + 1 ≤ R.cells) (hsl : slots + cap ≤ R.slots) :
    ∃ T' h', Stand p l e R s m args below meth c T' locs (cells + 1) (slots + cap) ∧ T'.heap = h' ∧ Ext h h' ∧ IA Z h' h.size xs ∧ Exa Z h' h.size "[I" ∧
      ∀ target, Steps p.tables e below (T'.setTop { g with pc := g.pc + 3, stack := .ref h.size :: rest }) target → Steps p.tables e below (T.setTop g) target := by
  obtain ⟨cl, A, q, r⟩ := F
  have hsz : cl.slots.size = xs.length := by rw [q]; simp
  obtain ⟨T', h', X', e', E', A', EE, st⟩ := cloneA X hx hZ hown w1 w2 w3 w4 w5 w6 eT A E (IA.fit A q) hg hsize hs hd hf hW hl (by rw [hsz]; exact hcap) hc hsl
  exact ⟨T', h', X', e', E', ⟨_, A', q, r⟩, EE, st⟩
/-- a byte array -/
def BA (Z : State) (h : Heap) (a : Addr) (xs : List Int32) : Prop := AV Z h a .byte (xs.map Value.int)
theorem BA.lt (F : BA Z h a xs) : a < h.size := AV.lt F
theorem BA.ext (F : BA Z h a xs) (E : Ext h h') : BA Z h' a xs := AV.ext F E
theorem BA.other (F : BA Z h b xs) (W : Wr h h' a sl v) (q : b ≠ a) : BA Z h' b xs := AV.other F W q
theorem BA.keep (F : BA Z h a xs) (K : Keep h h' ws) (q : a ∉ ws) : BA Z h' a xs := AV.keep F K q
theorem BA.new {k : ClassId} {z : Int32} (A : Arr Z h a (newA k .byte z) .byte) {n : Nat} (q : z.toNatClampNeg = n) : BA Z h a (List.replicate n (0 : Int32)) := AV.new A (by subst q; rw [List.map_replicate]; rfl)
theorem BA.wr {x : Int32} (F : BA Z h a xs) (W : Wr h h' a sl (.int x)) : BA Z h' a (xs.set sl x) := by
  have := AV.wr F W
  rw [← List.map_set] at this; exact this
theorem ldBO (X : Stand p l e R s m args below meth c T locs cells slots) (hx : p.tables.exec = Jvm.exec) (hZ : Z.Warmed39 s.vm) (eT : T.heap = h) (F : BA Z h a xs) {j x : Int32} (q : rd xs j = some x) {g : JFrame} (hg : g.method = m) {rest : List Value} (hs : g.stack = .int j :: .ref a :: rest) (hd : decode c.code g.pc = .ok (.baload, 1)) :
    ∀ target, Steps p.tables e below (T.setTop { g with pc := g.pc + 1, stack := .int x :: rest }) target → Steps p.tables e below (T.setTop g) target := by
  obtain ⟨hj, rfl⟩ := rd_some q
  obtain ⟨cl, A, q, r⟩ := F
  have hsz : cl.slots.size = xs.length := by rw [q]; simp
  have hi := (clamp_of hj).1
  refine X.baloadBytes hx (v := .int (gi xs j)) (by rw [eT]; exact A.1) (State.isArrayOf_alike hZ.alike A.2.1) A.2.2 (inb_of' hsz hj) ?_ hg hs hd
  rw [q]
  simp [gi, List.getD_eq_getElem?_getD, hi]
theorem stBO (X : Stand p l e R s m args below meth c T locs cells slots) (hx : p.tables.exec = Jvm.exec) (hZ : Z.Warmed39 s.vm) (eT : T.heap = h) (F : BA Z h a xs) {j x : Int32} {ys : List Int32} (q : wt xs j (nar .byte x) = some ys) {g : JFrame} (hg : g.method = m) {rest : List Value} (hs : g.stack = .int x :: .int j :: .ref a :: rest) (hd : decode c.code g.pc = .ok (.bastore, 1)) :
    ∃ T' h', Stand p l e R s m args below meth c T' (locs ++ [⟨a, j.toNatClampNeg⟩]) cells slots ∧ T'.heap = h' ∧ Wr h h' a j.toNatClampNeg (.int (nar .byte x)) ∧ BA Z h' a ys ∧ ∀ target, Steps p.tables e below (T'.setTop { g with pc := g.pc + 1, stack := rest }) target → Steps p.tables e below (T.setTop g) target := by
  obtain ⟨hj, rfl⟩ := wt_some q
  have F0 := F
  obtain ⟨cl, A, q, r⟩ := F
  have hsz : cl.slots.size = xs.length := by rw [q]; simp
  obtain ⟨T', h', X', e', W, st⟩ := stB X hx hZ eT A (inb_of' hsz hj) hg hs hd
  exact ⟨T', h', X', e', W, BA.wr F0 W, st⟩
/-- an array of references to objects of the class C -/
def RA (Z : State) (h : Heap) (a : Addr) (C : String) (vs : List Value) : Prop := ∃ c : Cell, Arr Z h a c (.object C) ∧ c.slots = vs.toArray ∧ vs.length < 2147483648 ∧ Ovr Z c.cls C
variable {C : String}
theorem RA.lt (F : RA Z h a C vs) : a < h.size := by obtain ⟨c, A, -⟩ := F; exact A.lt
theorem RA.ext (F : RA Z h a C vs) (E : Ext h h') : RA Z h' a C vs := by obtain ⟨c, A, r⟩ := F; exact ⟨c, A.ext E, r⟩
theorem RA.other (F : RA Z h b C vs) (W : Wr h h' a sl v) (q : b ≠ a) : RA Z h' b C vs := by obtain ⟨c, A, r⟩ := F; exact ⟨c, A.other W q, r⟩
theorem RA.new {k : ClassId} {z : Int32} (A : Arr Z h a (newA k (.object C) z) (.object C)) (O : Ovr Z k C) (q : List.replicate z.toNatClampNeg Value.null = vs) : RA Z h a C vs := by
  subst q
  exact ⟨_, A, by simp [newA, defaultValue], by rw [List.length_replicate]; exact clamp_lt z, O⟩
theorem stRA (X : Stand p l e R s m args below meth c T locs cells slots) (hx : p.tables.exec = Jvm.exec) (hZ : Z.Warmed39 s.vm) (eT : T.heap = h) (F : RA Z h a C vs) {j : Int32} {y : Addr} (n : Nat) (hl : vs.length = n) (hj : 0 ≤ j.toInt ∧ j.toInt < (n : Int)) (I : Ins Z h y C true) {g : JFrame} (hg : g.method = m) {rest : List Value} (hs : g.stack = .ref y :: .int j :: .ref a :: rest) (hd : decode c.code g.pc = .ok (.aastore, 1)) :
    ∃ T' h', Stand p l e R s m args below meth c T' (locs ++ [⟨a, j.toNatClampNeg⟩]) cells slots ∧ T'.heap = h' ∧ Wr h h' a j.toNatClampNeg (.ref y) ∧ RA Z h' a C (vs.set j.toNatClampNeg (.ref y)) ∧ ∀ target, Steps p.tables e below (T'.setTop { g with pc := g.pc + 1, stack := rest }) target → Steps p.tables e below (T.setTop g) target := by
  obtain ⟨cl, A, q, r, O⟩ := F
  have hsz : cl.slots.size = n := by rw [q]; simp [hl]
  obtain ⟨T', h', X', e', W, st⟩ := stR X hx hZ eT A (inb_of' hsz hj) rfl (Sto.of A O I) hg hs hd
  exact ⟨T', h', X', e', W, ⟨_, A.same W, by simp [Cell.setSlot, q], by simpa using r, O⟩, st⟩
theorem ldRA (X : Stand p l e R s m args below meth c T locs cells slots) (hx : p.tables.exec = Jvm.exec) (hZ : Z.Warmed39 s.vm) (eT : T.heap = h) (F : RA Z h a C vs) {j : Int32} (n : Nat) (hl : vs.length = n) (hj : 0 ≤ j.toInt ∧ j.toInt < (n : Int)) (hv : vs[j.toNatClampNeg]? = some v) {g : JFrame} (hg : g.method = m) {rest : List Value} (hs : g.stack = .int j :: .ref a :: rest) (hd : decode c.code g.pc = .ok (.aaload, 1)) :
    ∀ target, Steps p.tables e below (T.setTop { g with pc := g.pc + 1, stack := v :: rest }) target → Steps p.tables e below (T.setTop g) target := by
  obtain ⟨cl, A, q, r, O⟩ := F
  have hsz : cl.slots.size = n := by rw [q]; simp [hl]
  exact X.aaload hx (by rw [eT]; exact A.1) (State.isArrayOf_alike hZ.alike A.2.1) rfl A.2.2 (inb_of' hsz hj) (by rw [q]; simpa using hv) hg hs hd
theorem ldAV (X : Stand p l e R s m args below meth c T locs cells slots) (hx : p.tables.exec = Jvm.exec) (hZ : Z.Warmed39 s.vm) (eT : T.heap = h) (F : AV Z h a ty vs) (hty : ty.isReference = true) {j : Int32} (n : Nat) (hl : vs.length = n) (hj : 0 ≤ j.toInt ∧ j.toInt < (n : Int)) (hv : vs[j.toNatClampNeg]? = some v) {g : JFrame} (hg : g.method = m) {rest : List Value} (hs : g.stack = .int j :: .ref a :: rest) (hd : decode c.code g.pc = .ok (.aaload, 1)) :
    ∀ target, Steps p.tables e below (T.setTop { g with pc := g.pc + 1, stack := v :: rest }) target → Steps p.tables e below (T.setTop g) target := by
  obtain ⟨cl, A, q, r⟩ := F
  have hsz : cl.slots.size = n := by rw [q]; simp [hl]
  exact X.aaload hx (by rw [eT]; exact A.1) (State.isArrayOf_alike hZ.alike A.2.1) hty A.2.2 (inb_of' hsz hj) (by rw [q]; simpa using hv) hg hs hd
def ga (as : List Addr) (j : Int32) : Addr := as.getD j.toNatClampNeg 0
theorem ga_at {as : List Addr} {j : Int32} {n : Nat} (hl : as.length = n) (hj : 0 ≤ j.toInt ∧ j.toInt < (n : Int)) : (as.map Value.ref)[j.toNatClampNeg]? = some (.ref (ga as j)) := by
  have : j.toNatClampNeg < as.length := by rw [hl]; exact (clamp_of hj).1
  simp [ga, List.getD_eq_getElem?_getD, this]
theorem ga_all {as : List Addr} {j : Int32} {n : Nat} {P : Addr → Prop} (hl : as.length = n) (hj : 0 ≤ j.toInt ∧ j.toInt < (n : Int)) (q : ∀ x ∈ as, P x) : P (ga as j) := by
  have h : j.toNatClampNeg < as.length := by rw [hl]; exact (clamp_of hj).1
  have : ga as j = as[j.toNatClampNeg] := by simp [ga, List.getD_eq_getElem?_getD, h]
  rw [this]; exact q _ (List.getElem_mem h)
theorem size_wr (W : Wr h h' a sl v) {n : Nat} (q : n ≤ h.size) : n ≤ h'.size := by rw [W.size]; exact q
end Arrays
end Jvm.Own
namespace Jvm.RoadKit
open Sem ClassFile Op Lib Jvm.Stand Jvm.Free Jvm.LawKit
section New
variable {p : Program} {l : Launch} {e : Env} {R : Room} {s : State} {m : MethodId} {args : Array Value} {below : List Frame} {meth : Method} {c : Code} {T : State} {locs : List Loc} {cells slots : Nat}
theorem retI (X : Stand p l e R s m args below meth c T locs cells slots) (hx : p.tables.exec = Jvm.exec) {pc : Nat} {Ls : Array Slot} {z : Int32} {rest : List Value} (hret : meth.sig.returnType = some .int) (hd : decode c.code pc = .ok (.ireturn, 1)) {fs : List Frame}
    (hl : ∀ (f : JFrame) (acts : List Action), f.method = m → f.locked = none → f.entered = [] → (doReturn e (T.setTop f) acts (some (.int z))).1 = T.setFrames fs) : Steps p.tables e below (T.setTop (mkF m pc Ls (.int z :: rest))) (T.setFrames fs) := by
  have hm' : T.vm.method? m = some meth := X.method'
  have hn : narrow .int (.int z) = .int z := rfl
  show Steps p.tables e below (T.setTop { method := m, pc := pc, locals := Ls, stack := _ :: rest, locked := none }) _
  jvm_step X.here [X.here.top, hx, hd, hm', hret, hn]
  first | (intro acts; rw [hl _ acts rfl rfl rfl]) | rw [hl _ _ rfl rfl rfl]
  exact Steps.refl _
theorem retA (X : Stand p l e R s m args below meth c T locs cells slots) (hx : p.tables.exec = Jvm.exec) {pc : Nat} {Ls : Array Slot} {z : Value} {t : FieldType} {rest : List Value} (hret : meth.sig.returnType = some t) (ht : t.isReference = true) (hz : z.isRef = true) (hd : decode c.code pc = .ok (.areturn, 1)) {fs : List Frame}
    (hl : ∀ (f : JFrame) (acts : List Action), f.method = m → f.locked = none → f.entered = [] → (doReturn e (T.setTop f) acts (some z)).1 = T.setFrames fs) : Steps p.tables e below (T.setTop (mkF m pc Ls (z :: rest))) (T.setFrames fs) := by
  have hm' : T.vm.method? m = some meth := X.method'
  show Steps p.tables e below (T.setTop { method := m, pc := pc, locals := Ls, stack := _ :: rest, locked := none }) _
  jvm_step X.here [X.here.top, hx, hd, hm', hret, ht, hz]
  first | (intro acts; rw [hl _ acts rfl rfl rfl]) | rw [hl _ _ rfl rfl rfl]
  exact Steps.refl _
end New
end Jvm.RoadKit
namespace Jvm.Pilot.@@N@@
open Jvm Jvm.ClassFile Sem Op Lib Jvm.Free Jvm.Stand Jvm.LawKit Jvm.RoadKit Bundle Jvm.Pilot.@@N@@.Jvm.D
theorem own_tsw {x : Int32} {k : Int} (h : ¬ x = Int32.ofInt k) (h1 : -2147483648 ≤ k) (h2 : k < 2147483648) : x.toInt ≠ k := fun q => h (by rw [← q]; exact (Int32.ofInt_toInt x).symm)
theorem own_rem {x y : Int32} (hx : 0 ≤ x.toInt) (hy : 0 < y.toInt) : (x - (x / y) * y).toInt = x.toInt % y.toInt := by
  have hxl := x.toInt_lt
  have e1 : (x / y).toInt = x.toInt / y.toInt := by rw [Jvm.Kit.i32_div (by omega), Int.tdiv_eq_ediv_of_nonneg hx]
  have m1 : x.toInt / y.toInt * y.toInt = x.toInt - x.toInt % y.toInt := by
    have := Int.mul_ediv_add_emod x.toInt y.toInt
    rw [Int.mul_comm] at this; omega
  have m2 : 0 ≤ x.toInt % y.toInt := Int.emod_nonneg _ (by omega)
  have m3 : x.toInt % y.toInt ≤ x.toInt := by
    have := Int.mul_nonneg (Int.ediv_nonneg hx (by omega : 0 ≤ y.toInt)) (by omega : 0 ≤ y.toInt); omega
  have e2 : ((x / y) * y).toInt = x.toInt - x.toInt % y.toInt := by rw [Jvm.Kit.i32_mul (by rw [e1, m1]; omega) (by rw [e1, m1]; omega), e1, m1]
  rw [Jvm.Kit.i32_sub (by rw [e2]; omega) (by rw [e2]; omega), e2]; omega
theorem own_pos (x : Int32) : (x &&& 2147483647).toInt = x.toInt % 2147483648 := Jvm.Kit.i32_mask x 2147483647 (k := 31) (by decide) (by decide)

theorem own_nz (p2 bd : Int32) (h : bd = ((1 : Int32) + (p2 &&& (7 : Int32)))) : bd ≠ 0 := by
  intro q
  have e := Jvm.Kit.i32_mask p2 7 (k := 3) (by decide) (by decide)
  have l1 : (1 : Int32).toInt = 1 := rfl
  have h2 : bd.toInt = 1 + p2.toInt % 2 ^ 3 := by rw [h, Jvm.Kit.i32_add (by rw [e, l1]; omega) (by rw [e, l1]; omega), e, l1]
  rw [q, show (0 : Int32).toInt = 0 from rfl] at h2; omega

theorem d3_17 : decode prog_32_method_5_code 17 = .ok (.iload 6, 2) := by decide +kernel
theorem d3_19 : decode prog_32_method_5_code 19 = .ok (.iload 5, 2) := by decide +kernel
theorem d3_21 : decode prog_32_method_5_code 21 = .ok (.if_icmp .ge 28, 3) := by decide +kernel
theorem d3_24 : decode prog_32_method_5_code 24 = .ok (.aload 4, 2) := by decide +kernel
theorem d3_26 : decode prog_32_method_5_code 26 = .ok (.iload 6, 2) := by decide +kernel
theorem d3_28 : decode prog_32_method_5_code 28 = .ok (.iaload, 1) := by decide +kernel
theorem d3_29 : decode prog_32_method_5_code 29 = .ok (.istore 7, 2) := by decide +kernel
theorem d3_31 : decode prog_32_method_5_code 31 = .ok (.aload_n 3, 1) := by decide +kernel
theorem d3_32 : decode prog_32_method_5_code 32 = .ok (.aload_n 1, 1) := by decide +kernel
theorem d3_33 : decode prog_32_method_5_code 33 = .ok (.iload 7, 2) := by decide +kernel
theorem d3_35 : decode prog_32_method_5_code 35 = .ok (.iaload, 1) := by decide +kernel
theorem d3_36 : decode prog_32_method_5_code 36 = .ok (.iconst 1, 1) := by decide +kernel
theorem d3_37 : decode prog_32_method_5_code 37 = .ok (.iadd, 1) := by decide +kernel
theorem d3_38 : decode prog_32_method_5_code 38 = .ok (.dup2, 1) := by decide +kernel
theorem d3_39 : decode prog_32_method_5_code 39 = .ok (.iaload, 1) := by decide +kernel
theorem d3_40 : decode prog_32_method_5_code 40 = .ok (.iconst 1, 1) := by decide +kernel
theorem d3_41 : decode prog_32_method_5_code 41 = .ok (.iadd, 1) := by decide +kernel
theorem d3_42 : decode prog_32_method_5_code 42 = .ok (.iastore, 1) := by decide +kernel
theorem d3_43 : decode prog_32_method_5_code 43 = .ok (.iinc 6 1, 3) := by decide +kernel
theorem d3_46 : decode prog_32_method_5_code 46 = .ok (.goto (-29), 3) := by decide +kernel
def M_lp1 : Nat → Int32 → List Int32 → List Int32 → Int32 → List Int32 → Option (Int32 × List Int32)
  | 0, _, _, _, _, _ => none
  | k + 1, nn, xi, xk, i, xs => (if i < nn then (Own.rd xi i).bind fun v6 => (Own.rd xk v6).bind fun v9 => (Own.rd xs (v9 + (1 : Int32))).bind fun v12 => (Own.wt xs (v9 + (1 : Int32)) (v12 + (1 : Int32))).bind fun y15 => M_lp1 k nn xi xk (i + (1 : Int32)) y15 else some (i, xs))
theorem M_lp1_s (k : Nat) (nn : Int32) (xi : List Int32) (xk : List Int32) (i : Int32) (xs : List Int32) : M_lp1 (k + 1) nn xi xk i xs = (if i < nn then (Own.rd xi i).bind fun v6 => (Own.rd xk v6).bind fun v9 => (Own.rd xs (v9 + (1 : Int32))).bind fun v12 => (Own.wt xs (v9 + (1 : Int32)) (v12 + (1 : Int32))).bind fun y15 => M_lp1 k nn xi xk (i + (1 : Int32)) y15 else some (i, xs)) := rfl
set_option maxRecDepth 65536 in
set_option maxHeartbeats 40000000 in
theorem lp1 {p : Program} {l : Launch} {e : Env} {R : Room} {s : State} {m : MethodId} {args : Array Value} {below : List Frame} {meth : Method} {c : Code} {Z : State} {a0 : Array Value} {n0 cells slots : Nat} (hx : p.tables.exec = Jvm.exec) (hZ : Z.Warmed39 s.vm) (hw : ∀ d ∈ tables_1, d.before a0 Z = true) (hby : c.code = prog_32_method_5_code) (hml : c.maxLocals = 9) (hown : s.vm.findClass "com/example/pareto_workflow_scheduler/paretoworkflowscheduler/algorithm/Sorts" = some m.cls) (o0 o1 b : Addr) (p2 : Int32) (nn : Int32) (xi : List Int32) (xk : List Int32) (ge_b : n0 ≤ b) (ne_o0_b : o0 ≠ b) (ne_o1_b : o1 ≠ b) (k : Nat) : ∀ {T0 : State} {locs : List Loc} {h0 : Heap} (i : Int32) (xs : List Int32) (s7 : Slot) (out : Int32 × List Int32) (hM : M_lp1 k nn xi xk i xs = some out) (X0 : Stand p l e R s m args below meth c T0 locs cells slots) (e0 : T0.heap = h0) (N0 : Fr n0 locs) (Z0 : n0 ≤ h0.size) (os_s7 : One s7) (I_o0 : Own.IA Z h0 o0 xi) (I_o1 : Own.IA Z h0 o1 xk) (I_b : Own.IA Z h0 b xs),
    ∃ (T' : State) (locs' : List Loc) (h' : Heap) (s7' : Slot), Stand p l e R s m args below meth c T' locs' cells slots ∧ T'.heap = h' ∧ Fr n0 locs' ∧ n0 ≤ h'.size ∧ Keep h0 h' [b] ∧ One s7' ∧ Own.IA Z h' b out.2 ∧ Steps p.tables e below (T0.setTop (mkF m 17 #[.val (.ref o0), .val (.ref o1), .val (.int p2), .val (.ref b), .val (.ref o0), .val (.int nn), .val (.int i), s7, .unset] [])) (T'.setTop (mkF m 49 #[.val (.ref o0), .val (.ref o1), .val (.int p2), .val (.ref b), .val (.ref o0), .val (.int nn), .val (.int out.1), s7', .unset] [])) := by
  induction k with
  | zero => intro T0 locs h0 i xs s7 out hM X0 e0 N0 Z0 os_s7 I_o0 I_o1 I_b; cases hM
  | succ k ih =>
    intro T0 locs h0 i xs s7 out hM X0 e0 N0 Z0 os_s7 I_o0 I_o1 I_b
    rw [M_lp1_s] at hM
    have q0 : Steps p.tables e below (T0.setTop (mkF m 17 #[.val (.ref o0), .val (.ref o1), .val (.int p2), .val (.ref b), .val (.ref o0), .val (.int nn), .val (.int i), s7, .unset] [])) (T0.setTop (mkF m 17 #[.val (.ref o0), .val (.ref o1), .val (.int p2), .val (.ref b), .val (.ref o0), .val (.int nn), .val (.int i), s7, .unset] [])) := Steps.refl _
    have K0 : Keep h0 h0 [b] := Keep.refl _ _
    have q1 : Steps p.tables e below (T0.setTop (mkF m 17 #[.val (.ref o0), .val (.ref o1), .val (.int p2), .val (.ref b), .val (.ref o0), .val (.int nn), .val (.int i), s7, .unset] [])) (T0.setTop (mkF m 21 #[.val (.ref o0), .val (.ref o1), .val (.int p2), .val (.ref b), .val (.ref o0), .val (.int nn), .val (.int i), s7, .unset] [(.int nn), (.int i)])) := q0.trans (by
        show Steps p.tables e below (T0.setTop (mkF m 17 #[.val (.ref o0), .val (.ref o1), .val (.int p2), .val (.ref b), .val (.ref o0), .val (.int nn), .val (.int i), s7, .unset] [])) _
        refine XS.iload X0.here hx rfl (hb hby d3_17) rfl ?_
        show Steps p.tables e below (T0.setTop (mkF m 19 #[.val (.ref o0), .val (.ref o1), .val (.int p2), .val (.ref b), .val (.ref o0), .val (.int nn), .val (.int i), s7, .unset] [(.int i)])) _
        refine XS.iload X0.here hx rfl (hb hby d3_19) rfl ?_
        show Steps p.tables e below (T0.setTop (mkF m 21 #[.val (.ref o0), .val (.ref o1), .val (.int p2), .val (.ref b), .val (.ref o0), .val (.int nn), .val (.int i), s7, .unset] [(.int nn), (.int i)])) _
        exact Steps.refl _)
    by_cases hc3 : i < nn
    · rw [if_pos hc3] at hM
      have q4 : Steps p.tables e below (T0.setTop (mkF m 17 #[.val (.ref o0), .val (.ref o1), .val (.int p2), .val (.ref b), .val (.ref o0), .val (.int nn), .val (.int i), s7, .unset] [])) (T0.setTop (mkF m 24 #[.val (.ref o0), .val (.ref o1), .val (.int p2), .val (.ref b), .val (.ref o0), .val (.int nn), .val (.int i), s7, .unset] [])) := q1.trans (by
          show Steps p.tables e below (T0.setTop (mkF m 21 #[.val (.ref o0), .val (.ref o1), .val (.int p2), .val (.ref b), .val (.ref o0), .val (.int nn), .val (.int i), s7, .unset] [(.int nn), (.int i)])) _
          refine XS.icmpNo X0.here hx rfl (hb hby d3_21) rfl (tlt hc3).2.1 ?_
          show Steps p.tables e below (T0.setTop (mkF m 24 #[.val (.ref o0), .val (.ref o1), .val (.int p2), .val (.ref b), .val (.ref o0), .val (.int nn), .val (.int i), s7, .unset] [])) _
          exact Steps.refl _)
      have q5 : Steps p.tables e below (T0.setTop (mkF m 17 #[.val (.ref o0), .val (.ref o1), .val (.int p2), .val (.ref b), .val (.ref o0), .val (.int nn), .val (.int i), s7, .unset] [])) (T0.setTop (mkF m 28 #[.val (.ref o0), .val (.ref o1), .val (.int p2), .val (.ref b), .val (.ref o0), .val (.int nn), .val (.int i), s7, .unset] [(.int i), (.ref o0)])) := q4.trans (by
          show Steps p.tables e below (T0.setTop (mkF m 24 #[.val (.ref o0), .val (.ref o1), .val (.int p2), .val (.ref b), .val (.ref o0), .val (.int nn), .val (.int i), s7, .unset] [])) _
          refine XS.aload X0.here hx rfl (hb hby d3_24) rfl rfl ?_
          show Steps p.tables e below (T0.setTop (mkF m 26 #[.val (.ref o0), .val (.ref o1), .val (.int p2), .val (.ref b), .val (.ref o0), .val (.int nn), .val (.int i), s7, .unset] [(.ref o0)])) _
          refine XS.iload X0.here hx rfl (hb hby d3_26) rfl ?_
          show Steps p.tables e below (T0.setTop (mkF m 28 #[.val (.ref o0), .val (.ref o1), .val (.int p2), .val (.ref b), .val (.ref o0), .val (.int nn), .val (.int i), s7, .unset] [(.int i), (.ref o0)])) _
          exact Steps.refl _)
      obtain ⟨v6, hv6, hM⟩ := Option.bind_eq_some_iff.mp hM
      have q7 : Steps p.tables e below (T0.setTop (mkF m 17 #[.val (.ref o0), .val (.ref o1), .val (.int p2), .val (.ref b), .val (.ref o0), .val (.int nn), .val (.int i), s7, .unset] [])) (T0.setTop (mkF m 29 #[.val (.ref o0), .val (.ref o1), .val (.int p2), .val (.ref b), .val (.ref o0), .val (.int nn), .val (.int i), s7, .unset] [(.int v6)])) := q5.trans (Own.ldO X0 hx hZ e0 I_o0 hv6 (g := (mkF m 28 #[.val (.ref o0), .val (.ref o1), .val (.int p2), .val (.ref b), .val (.ref o0), .val (.int nn), .val (.int i), s7, .unset] [(.int i), (.ref o0)])) rfl rfl (hb hby d3_28) _ (Steps.refl _))
      have q8 : Steps p.tables e below (T0.setTop (mkF m 17 #[.val (.ref o0), .val (.ref o1), .val (.int p2), .val (.ref b), .val (.ref o0), .val (.int nn), .val (.int i), s7, .unset] [])) (T0.setTop (mkF m 35 #[.val (.ref o0), .val (.ref o1), .val (.int p2), .val (.ref b), .val (.ref o0), .val (.int nn), .val (.int i), .val (.int v6), .unset] [(.int v6), (.ref o1), (.ref b)])) := q7.trans (by
          show Steps p.tables e below (T0.setTop (mkF m 29 #[.val (.ref o0), .val (.ref o1), .val (.int p2), .val (.ref b), .val (.ref o0), .val (.int nn), .val (.int i), s7, .unset] [(.int v6)])) _
          refine XS.istoreS X0.here hx rfl (hb hby d3_29) rfl rfl os_s7 ?_
          show Steps p.tables e below (T0.setTop (mkF m 31 #[.val (.ref o0), .val (.ref o1), .val (.int p2), .val (.ref b), .val (.ref o0), .val (.int nn), .val (.int i), .val (.int v6), .unset] [])) _
          refine XS.aloadN X0.here hx rfl (hb hby d3_31) rfl rfl ?_
          show Steps p.tables e below (T0.setTop (mkF m 32 #[.val (.ref o0), .val (.ref o1), .val (.int p2), .val (.ref b), .val (.ref o0), .val (.int nn), .val (.int i), .val (.int v6), .unset] [(.ref b)])) _
          refine XS.aloadN X0.here hx rfl (hb hby d3_32) rfl rfl ?_
          show Steps p.tables e below (T0.setTop (mkF m 33 #[.val (.ref o0), .val (.ref o1), .val (.int p2), .val (.ref b), .val (.ref o0), .val (.int nn), .val (.int i), .val (.int v6), .unset] [(.ref o1), (.ref b)])) _
          refine XS.iload X0.here hx rfl (hb hby d3_33) rfl ?_
          show Steps p.tables e below (T0.setTop (mkF m 35 #[.val (.ref o0), .val (.ref o1), .val (.int p2), .val (.ref b), .val (.ref o0), .val (.int nn), .val (.int i), .val (.int v6), .unset] [(.int v6), (.ref o1), (.ref b)])) _
          exact Steps.refl _)
      obtain ⟨v9, hv9, hM⟩ := Option.bind_eq_some_iff.mp hM
      have q10 : Steps p.tables e below (T0.setTop (mkF m 17 #[.val (.ref o0), .val (.ref o1), .val (.int p2), .val (.ref b), .val (.ref o0), .val (.int nn), .val (.int i), s7, .unset] [])) (T0.setTop (mkF m 36 #[.val (.ref o0), .val (.ref o1), .val (.int p2), .val (.ref b), .val (.ref o0), .val (.int nn), .val (.int i), .val (.int v6), .unset] [(.int v9), (.ref b)])) := q8.trans (Own.ldO X0 hx hZ e0 I_o1 hv9 (g := (mkF m 35 #[.val (.ref o0), .val (.ref o1), .val (.int p2), .val (.ref b), .val (.ref o0), .val (.int nn), .val (.int i), .val (.int v6), .unset] [(.int v6), (.ref o1), (.ref b)])) rfl rfl (hb hby d3_35) _ (Steps.refl _))
      have q11 : Steps p.tables e below (T0.setTop (mkF m 17 #[.val (.ref o0), .val (.ref o1), .val (.int p2), .val (.ref b), .val (.ref o0), .val (.int nn), .val (.int i), s7, .unset] [])) (T0.setTop (mkF m 39 #[.val (.ref o0), .val (.ref o1), .val (.int p2), .val (.ref b), .val (.ref o0), .val (.int nn), .val (.int i), .val (.int v6), .unset] [(.int (v9 + (1 : Int32))), (.ref b), (.int (v9 + (1 : Int32))), (.ref b)])) := q10.trans (by
          show Steps p.tables e below (T0.setTop (mkF m 36 #[.val (.ref o0), .val (.ref o1), .val (.int p2), .val (.ref b), .val (.ref o0), .val (.int nn), .val (.int i), .val (.int v6), .unset] [(.int v9), (.ref b)])) _
          refine XS.iconst X0.here hx rfl (hb hby d3_36) ?_
          show Steps p.tables e below (T0.setTop (mkF m 37 #[.val (.ref o0), .val (.ref o1), .val (.int p2), .val (.ref b), .val (.ref o0), .val (.int nn), .val (.int i), .val (.int v6), .unset] [(.int (1 : Int32)), (.int v9), (.ref b)])) _
          refine XS.iadd X0.here hx rfl (hb hby d3_37) rfl ?_
          show Steps p.tables e below (T0.setTop (mkF m 38 #[.val (.ref o0), .val (.ref o1), .val (.int p2), .val (.ref b), .val (.ref o0), .val (.int nn), .val (.int i), .val (.int v6), .unset] [(.int (v9 + (1 : Int32))), (.ref b)])) _
          refine XT.dup2 X0.here hx rfl (hb hby d3_38) rfl rfl rfl ?_
          show Steps p.tables e below (T0.setTop (mkF m 39 #[.val (.ref o0), .val (.ref o1), .val (.int p2), .val (.ref b), .val (.ref o0), .val (.int nn), .val (.int i), .val (.int v6), .unset] [(.int (v9 + (1 : Int32))), (.ref b), (.int (v9 + (1 : Int32))), (.ref b)])) _
          exact Steps.refl _)
      obtain ⟨v12, hv12, hM⟩ := Option.bind_eq_some_iff.mp hM
      have q13 : Steps p.tables e below (T0.setTop (mkF m 17 #[.val (.ref o0), .val (.ref o1), .val (.int p2), .val (.ref b), .val (.ref o0), .val (.int nn), .val (.int i), s7, .unset] [])) (T0.setTop (mkF m 40 #[.val (.ref o0), .val (.ref o1), .val (.int p2), .val (.ref b), .val (.ref o0), .val (.int nn), .val (.int i), .val (.int v6), .unset] [(.int v12), (.int (v9 + (1 : Int32))), (.ref b)])) := q11.trans (Own.ldO X0 hx hZ e0 I_b hv12 (g := (mkF m 39 #[.val (.ref o0), .val (.ref o1), .val (.int p2), .val (.ref b), .val (.ref o0), .val (.int nn), .val (.int i), .val (.int v6), .unset] [(.int (v9 + (1 : Int32))), (.ref b), (.int (v9 + (1 : Int32))), (.ref b)])) rfl rfl (hb hby d3_39) _ (Steps.refl _))
      have q14 : Steps p.tables e below (T0.setTop (mkF m 17 #[.val (.ref o0), .val (.ref o1), .val (.int p2), .val (.ref b), .val (.ref o0), .val (.int nn), .val (.int i), s7, .unset] [])) (T0.setTop (mkF m 42 #[.val (.ref o0), .val (.ref o1), .val (.int p2), .val (.ref b), .val (.ref o0), .val (.int nn), .val (.int i), .val (.int v6), .unset] [(.int (v12 + (1 : Int32))), (.int (v9 + (1 : Int32))), (.ref b)])) := q13.trans (by
          show Steps p.tables e below (T0.setTop (mkF m 40 #[.val (.ref o0), .val (.ref o1), .val (.int p2), .val (.ref b), .val (.ref o0), .val (.int nn), .val (.int i), .val (.int v6), .unset] [(.int v12), (.int (v9 + (1 : Int32))), (.ref b)])) _
          refine XS.iconst X0.here hx rfl (hb hby d3_40) ?_
          show Steps p.tables e below (T0.setTop (mkF m 41 #[.val (.ref o0), .val (.ref o1), .val (.int p2), .val (.ref b), .val (.ref o0), .val (.int nn), .val (.int i), .val (.int v6), .unset] [(.int (1 : Int32)), (.int v12), (.int (v9 + (1 : Int32))), (.ref b)])) _
          refine XS.iadd X0.here hx rfl (hb hby d3_41) rfl ?_
          show Steps p.tables e below (T0.setTop (mkF m 42 #[.val (.ref o0), .val (.ref o1), .val (.int p2), .val (.ref b), .val (.ref o0), .val (.int nn), .val (.int i), .val (.int v6), .unset] [(.int (v12 + (1 : Int32))), (.int (v9 + (1 : Int32))), (.ref b)])) _
          exact Steps.refl _)
      obtain ⟨y15, hy15, hM⟩ := Option.bind_eq_some_iff.mp hM
      obtain ⟨T16, h16, X16, e16, W16, J16, st16⟩ := Own.stO X0 hx hZ e0 I_b hy15 (g := (mkF m 42 #[.val (.ref o0), .val (.ref o1), .val (.int p2), .val (.ref b), .val (.ref o0), .val (.int nn), .val (.int i), .val (.int v6), .unset] [(.int (v12 + (1 : Int32))), (.int (v9 + (1 : Int32))), (.ref b)])) rfl rfl (hb hby d3_42)
      have N16 := Fr.snoc X16 N0 ge_b
      have Io0_16 := I_o0.other W16 ne_o0_b
      have Io1_16 := I_o1.other W16 ne_o1_b
      have Z16 : n0 ≤ h16.size := Own.size_wr W16 Z0
      have K16 : Keep h0 h16 [b] := K0.wr W16 (Or.inl (List.mem_of_getElem? (i := 0) rfl))
      have q17 : Steps p.tables e below (T0.setTop (mkF m 17 #[.val (.ref o0), .val (.ref o1), .val (.int p2), .val (.ref b), .val (.ref o0), .val (.int nn), .val (.int i), s7, .unset] [])) (T16.setTop (mkF m 43 #[.val (.ref o0), .val (.ref o1), .val (.int p2), .val (.ref b), .val (.ref o0), .val (.int nn), .val (.int i), .val (.int v6), .unset] [])) := q14.trans (st16 _ (Steps.refl _))
      have q18 : Steps p.tables e below (T0.setTop (mkF m 17 #[.val (.ref o0), .val (.ref o1), .val (.int p2), .val (.ref b), .val (.ref o0), .val (.int nn), .val (.int i), s7, .unset] [])) (T16.setTop (mkF m 17 #[.val (.ref o0), .val (.ref o1), .val (.int p2), .val (.ref b), .val (.ref o0), .val (.int nn), .val (.int (i + (1 : Int32))), .val (.int v6), .unset] [])) := q17.trans (by
          show Steps p.tables e below (T16.setTop (mkF m 43 #[.val (.ref o0), .val (.ref o1), .val (.int p2), .val (.ref b), .val (.ref o0), .val (.int nn), .val (.int i), .val (.int v6), .unset] [])) _
          refine XS.iinc X16.here hx rfl (hb hby d3_43) rfl (l' := #[.val (.ref o0), .val (.ref o1), .val (.int p2), .val (.ref b), .val (.ref o0), .val (.int nn), .val (.int (i + (1 : Int32))), .val (.int v6), .unset]) rfl ?_
          show Steps p.tables e below (T16.setTop (mkF m 46 #[.val (.ref o0), .val (.ref o1), .val (.int p2), .val (.ref b), .val (.ref o0), .val (.int nn), .val (.int (i + (1 : Int32))), .val (.int v6), .unset] [])) _
          refine XS.goto X16.here hx rfl (pc0 := 46) (pc' := 17) rfl (hb hby d3_46) (by decide) (by decide) ?_
          show Steps p.tables e below (T16.setTop (mkF m 17 #[.val (.ref o0), .val (.ref o1), .val (.int p2), .val (.ref b), .val (.ref o0), .val (.int nn), .val (.int (i + (1 : Int32))), .val (.int v6), .unset] [])) _
          exact Steps.refl _)
      obtain ⟨T', locs', h', u0, X', e', N', Z', K', o0_, J0', q'⟩ := ih (i + (1 : Int32)) y15 (.val (.int v6)) _ hM X16 e16 N16 Z16 (One.val rfl) Io0_16 Io1_16 J16
      exact ⟨T', locs', h', u0, X', e', N', Z', K16.trans K' (fun _ hx' => Or.inl hx'), o0_, J0', q18.trans q'⟩
    · rw [if_neg hc3] at hM
      have q19 : Steps p.tables e below (T0.setTop (mkF m 17 #[.val (.ref o0), .val (.ref o1), .val (.int p2), .val (.ref b), .val (.ref o0), .val (.int nn), .val (.int i), s7, .unset] [])) (T0.setTop (mkF m 49 #[.val (.ref o0), .val (.ref o1), .val (.int p2), .val (.ref b), .val (.ref o0), .val (.int nn), .val (.int i), s7, .unset] [])) := q1.trans (by
          show Steps p.tables e below (T0.setTop (mkF m 21 #[.val (.ref o0), .val (.ref o1), .val (.int p2), .val (.ref b), .val (.ref o0), .val (.int nn), .val (.int i), s7, .unset] [(.int nn), (.int i)])) _
          refine XS.icmpYes X0.here hx rfl (pc0 := 21) (pc' := 49) rfl (hb hby d3_21) rfl (flt hc3).2.1 (by decide) (by decide) ?_
          show Steps p.tables e below (T0.setTop (mkF m 49 #[.val (.ref o0), .val (.ref o1), .val (.int p2), .val (.ref b), .val (.ref o0), .val (.int nn), .val (.int i), s7, .unset] [])) _
          exact Steps.refl _)
      obtain rfl := Option.some.inj hM
      exact ⟨_, _, _, s7, X0, e0, N0, Z0, K0, os_s7, I_b, q19⟩

theorem d3_52 : decode prog_32_method_5_code 52 = .ok (.iload 4, 2) := by decide +kernel
theorem d3_54 : decode prog_32_method_5_code 54 = .ok (.aload_n 3, 1) := by decide +kernel
theorem d3_55 : decode prog_32_method_5_code 55 = .ok (.arraylength, 1) := by decide +kernel
theorem d3_56 : decode prog_32_method_5_code 56 = .ok (.if_icmp .ge 22, 3) := by decide +kernel
theorem d3_59 : decode prog_32_method_5_code 59 = .ok (.aload_n 3, 1) := by decide +kernel
theorem d3_60 : decode prog_32_method_5_code 60 = .ok (.iload 4, 2) := by decide +kernel
theorem d3_62 : decode prog_32_method_5_code 62 = .ok (.dup2, 1) := by decide +kernel
theorem d3_63 : decode prog_32_method_5_code 63 = .ok (.iaload, 1) := by decide +kernel
theorem d3_64 : decode prog_32_method_5_code 64 = .ok (.aload_n 3, 1) := by decide +kernel
theorem d3_65 : decode prog_32_method_5_code 65 = .ok (.iload 4, 2) := by decide +kernel
theorem d3_67 : decode prog_32_method_5_code 67 = .ok (.iconst 1, 1) := by decide +kernel
theorem d3_68 : decode prog_32_method_5_code 68 = .ok (.isub, 1) := by decide +kernel
theorem d3_69 : decode prog_32_method_5_code 69 = .ok (.iaload, 1) := by decide +kernel
theorem d3_70 : decode prog_32_method_5_code 70 = .ok (.iadd, 1) := by decide +kernel
theorem d3_71 : decode prog_32_method_5_code 71 = .ok (.iastore, 1) := by decide +kernel
theorem d3_72 : decode prog_32_method_5_code 72 = .ok (.iinc 4 1, 3) := by decide +kernel
theorem d3_75 : decode prog_32_method_5_code 75 = .ok (.goto (-23), 3) := by decide +kernel
def M_lp2 : Nat → Int32 → List Int32 → Option (Int32 × List Int32)
  | 0, _, _ => none
  | k + 1, i, xs => (if i < (Own.ln xs) then (Own.rd xs i).bind fun v6 => (Own.rd xs (i - (1 : Int32))).bind fun v9 => (Own.wt xs i (v6 + v9)).bind fun y12 => M_lp2 k  (i + (1 : Int32)) y12 else some (i, xs))
theorem M_lp2_s (k : Nat) (i : Int32) (xs : List Int32) : M_lp2 (k + 1) i xs = (if i < (Own.ln xs) then (Own.rd xs i).bind fun v6 => (Own.rd xs (i - (1 : Int32))).bind fun v9 => (Own.wt xs i (v6 + v9)).bind fun y12 => M_lp2 k  (i + (1 : Int32)) y12 else some (i, xs)) := rfl
set_option maxRecDepth 65536 in
set_option maxHeartbeats 40000000 in
theorem lp2 {p : Program} {l : Launch} {e : Env} {R : Room} {s : State} {m : MethodId} {args : Array Value} {below : List Frame} {meth : Method} {c : Code} {Z : State} {a0 : Array Value} {n0 cells slots : Nat} (hx : p.tables.exec = Jvm.exec) (hZ : Z.Warmed39 s.vm) (hw : ∀ d ∈ tables_1, d.before a0 Z = true) (hby : c.code = prog_32_method_5_code) (hml : c.maxLocals = 9) (hown : s.vm.findClass "com/example/pareto_workflow_scheduler/paretoworkflowscheduler/algorithm/Sorts" = some m.cls) (o0 o1 b : Addr) (p2 z5 z6 : Int32) (s7 : Slot)  (ge_b : n0 ≤ b) (k : Nat) : ∀ {T0 : State} {locs : List Loc} {h0 : Heap} (i : Int32) (xs : List Int32)  (out : Int32 × List Int32) (hM : M_lp2 k i xs = some out) (X0 : Stand p l e R s m args below meth c T0 locs cells slots) (e0 : T0.heap = h0) (N0 : Fr n0 locs) (Z0 : n0 ≤ h0.size)  (I_b : Own.IA Z h0 b xs),
    ∃ (T' : State) (locs' : List Loc) (h' : Heap) , Stand p l e R s m args below meth c T' locs' cells slots ∧ T'.heap = h' ∧ Fr n0 locs' ∧ n0 ≤ h'.size ∧ Keep h0 h' [b] ∧ Own.IA Z h' b out.2 ∧ Steps p.tables e below (T0.setTop (mkF m 52 #[.val (.ref o0), .val (.ref o1), .val (.int p2), .val (.ref b), .val (.int i), .val (.int z5), .val (.int z6), s7, .unset] [])) (T'.setTop (mkF m 78 #[.val (.ref o0), .val (.ref o1), .val (.int p2), .val (.ref b), .val (.int out.1), .val (.int z5), .val (.int z6), s7, .unset] [])) := by
  induction k with
  | zero => intro T0 locs h0 i xs out hM X0 e0 N0 Z0 I_b; cases hM
  | succ k ih =>
    intro T0 locs h0 i xs out hM X0 e0 N0 Z0 I_b
    rw [M_lp2_s] at hM
    have q0 : Steps p.tables e below (T0.setTop (mkF m 52 #[.val (.ref o0), .val (.ref o1), .val (.int p2), .val (.ref b), .val (.int i), .val (.int z5), .val (.int z6), s7, .unset] [])) (T0.setTop (mkF m 52 #[.val (.ref o0), .val (.ref o1), .val (.int p2), .val (.ref b), .val (.int i), .val (.int z5), .val (.int z6), s7, .unset] [])) := Steps.refl _
    have K0 : Keep h0 h0 [b] := Keep.refl _ _
    have q1 : Steps p.tables e below (T0.setTop (mkF m 52 #[.val (.ref o0), .val (.ref o1), .val (.int p2), .val (.ref b), .val (.int i), .val (.int z5), .val (.int z6), s7, .unset] [])) (T0.setTop (mkF m 56 #[.val (.ref o0), .val (.ref o1), .val (.int p2), .val (.ref b), .val (.int i), .val (.int z5), .val (.int z6), s7, .unset] [(.int (Own.ln xs)), (.int i)])) := q0.trans (by
        show Steps p.tables e below (T0.setTop (mkF m 52 #[.val (.ref o0), .val (.ref o1), .val (.int p2), .val (.ref b), .val (.int i), .val (.int z5), .val (.int z6), s7, .unset] [])) _
        refine XS.iload X0.here hx rfl (hb hby d3_52) rfl ?_
        show Steps p.tables e below (T0.setTop (mkF m 54 #[.val (.ref o0), .val (.ref o1), .val (.int p2), .val (.ref b), .val (.int i), .val (.int z5), .val (.int z6), s7, .unset] [(.int i)])) _
        refine XS.aloadN X0.here hx rfl (hb hby d3_54) rfl rfl ?_
        show Steps p.tables e below (T0.setTop (mkF m 55 #[.val (.ref o0), .val (.ref o1), .val (.int p2), .val (.ref b), .val (.int i), .val (.int z5), .val (.int z6), s7, .unset] [(.ref b), (.int i)])) _
        refine Own.lnV X0 hx hZ e0 I_b (z := Own.ln xs) (by rw [List.length_map]; rfl) (g := (mkF m 55 #[.val (.ref o0), .val (.ref o1), .val (.int p2), .val (.ref b), .val (.int i), .val (.int z5), .val (.int z6), s7, .unset] [(.ref b), (.int i)])) rfl rfl (hb hby d3_55) _ ?_
        show Steps p.tables e below (T0.setTop (mkF m 56 #[.val (.ref o0), .val (.ref o1), .val (.int p2), .val (.ref b), .val (.int i), .val (.int z5), .val (.int z6), s7, .unset] [(.int (Own.ln xs)), (.int i)])) _
        exact Steps.refl _)
    by_cases hc3 : i < (Own.ln xs)
    · rw [if_pos hc3] at hM
      have q4 : Steps p.tables e below (T0.setTop (mkF m 52 #[.val (.ref o0), .val (.ref o1), .val (.int p2), .val (.ref b), .val (.int i), .val (.int z5), .val (.int z6), s7, .unset] [])) (T0.setTop (mkF m 59 #[.val (.ref o0), .val (.ref o1), .val (.int p2), .val (.ref b), .val (.int i), .val (.int z5), .val (.int z6), s7, .unset] [])) := q1.trans (by
          show Steps p.tables e below (T0.setTop (mkF m 56 #[.val (.ref o0), .val (.ref o1), .val (.int p2), .val (.ref b), .val (.int i), .val (.int z5), .val (.int z6), s7, .unset] [(.int (Own.ln xs)), (.int i)])) _
          refine XS.icmpNo X0.here hx rfl (hb hby d3_56) rfl (tlt hc3).2.1 ?_
          show Steps p.tables e below (T0.setTop (mkF m 59 #[.val (.ref o0), .val (.ref o1), .val (.int p2), .val (.ref b), .val (.int i), .val (.int z5), .val (.int z6), s7, .unset] [])) _
          exact Steps.refl _)
      have q5 : Steps p.tables e below (T0.setTop (mkF m 52 #[.val (.ref o0), .val (.ref o1), .val (.int p2), .val (.ref b), .val (.int i), .val (.int z5), .val (.int z6), s7, .unset] [])) (T0.setTop (mkF m 63 #[.val (.ref o0), .val (.ref o1), .val (.int p2), .val (.ref b), .val (.int i), .val (.int z5), .val (.int z6), s7, .unset] [(.int i), (.ref b), (.int i), (.ref b)])) := q4.trans (by
          show Steps p.tables e below (T0.setTop (mkF m 59 #[.val (.ref o0), .val (.ref o1), .val (.int p2), .val (.ref b), .val (.int i), .val (.int z5), .val (.int z6), s7, .unset] [])) _
          refine XS.aloadN X0.here hx rfl (hb hby d3_59) rfl rfl ?_
          show Steps p.tables e below (T0.setTop (mkF m 60 #[.val (.ref o0), .val (.ref o1), .val (.int p2), .val (.ref b), .val (.int i), .val (.int z5), .val (.int z6), s7, .unset] [(.ref b)])) _
          refine XS.iload X0.here hx rfl (hb hby d3_60) rfl ?_
          show Steps p.tables e below (T0.setTop (mkF m 62 #[.val (.ref o0), .val (.ref o1), .val (.int p2), .val (.ref b), .val (.int i), .val (.int z5), .val (.int z6), s7, .unset] [(.int i), (.ref b)])) _
          refine XT.dup2 X0.here hx rfl (hb hby d3_62) rfl rfl rfl ?_
          show Steps p.tables e below (T0.setTop (mkF m 63 #[.val (.ref o0), .val (.ref o1), .val (.int p2), .val (.ref b), .val (.int i), .val (.int z5), .val (.int z6), s7, .unset] [(.int i), (.ref b), (.int i), (.ref b)])) _
          exact Steps.refl _)
      obtain ⟨v6, hv6, hM⟩ := Option.bind_eq_some_iff.mp hM
      have q7 : Steps p.tables e below (T0.setTop (mkF m 52 #[.val (.ref o0), .val (.ref o1), .val (.int p2), .val (.ref b), .val (.int i), .val (.int z5), .val (.int z6), s7, .unset] [])) (T0.setTop (mkF m 64 #[.val (.ref o0), .val (.ref o1), .val (.int p2), .val (.ref b), .val (.int i), .val (.int z5), .val (.int z6), s7, .unset] [(.int v6), (.int i), (.ref b)])) := q5.trans (Own.ldO X0 hx hZ e0 I_b hv6 (g := (mkF m 63 #[.val (.ref o0), .val (.ref o1), .val (.int p2), .val (.ref b), .val (.int i), .val (.int z5), .val (.int z6), s7, .unset] [(.int i), (.ref b), (.int i), (.ref b)])) rfl rfl (hb hby d3_63) _ (Steps.refl _))
      have q8 : Steps p.tables e below (T0.setTop (mkF m 52 #[.val (.ref o0), .val (.ref o1), .val (.int p2), .val (.ref b), .val (.int i), .val (.int z5), .val (.int z6), s7, .unset] [])) (T0.setTop (mkF m 69 #[.val (.ref o0), .val (.ref o1), .val (.int p2), .val (.ref b), .val (.int i), .val (.int z5), .val (.int z6), s7, .unset] [(.int (i - (1 : Int32))), (.ref b), (.int v6), (.int i), (.ref b)])) := q7.trans (by
          show Steps p.tables e below (T0.setTop (mkF m 64 #[.val (.ref o0), .val (.ref o1), .val (.int p2), .val (.ref b), .val (.int i), .val (.int z5), .val (.int z6), s7, .unset] [(.int v6), (.int i), (.ref b)])) _
          refine XS.aloadN X0.here hx rfl (hb hby d3_64) rfl rfl ?_
          show Steps p.tables e below (T0.setTop (mkF m 65 #[.val (.ref o0), .val (.ref o1), .val (.int p2), .val (.ref b), .val (.int i), .val (.int z5), .val (.int z6), s7, .unset] [(.ref b), (.int v6), (.int i), (.ref b)])) _
          refine XS.iload X0.here hx rfl (hb hby d3_65) rfl ?_
          show Steps p.tables e below (T0.setTop (mkF m 67 #[.val (.ref o0), .val (.ref o1), .val (.int p2), .val (.ref b), .val (.int i), .val (.int z5), .val (.int z6), s7, .unset] [(.int i), (.ref b), (.int v6), (.int i), (.ref b)])) _
          refine XS.iconst X0.here hx rfl (hb hby d3_67) ?_
          show Steps p.tables e below (T0.setTop (mkF m 68 #[.val (.ref o0), .val (.ref o1), .val (.int p2), .val (.ref b), .val (.int i), .val (.int z5), .val (.int z6), s7, .unset] [(.int (1 : Int32)), (.int i), (.ref b), (.int v6), (.int i), (.ref b)])) _
          refine XS.isub X0.here hx rfl (hb hby d3_68) rfl ?_
          show Steps p.tables e below (T0.setTop (mkF m 69 #[.val (.ref o0), .val (.ref o1), .val (.int p2), .val (.ref b), .val (.int i), .val (.int z5), .val (.int z6), s7, .unset] [(.int (i - (1 : Int32))), (.ref b), (.int v6), (.int i), (.ref b)])) _
          exact Steps.refl _)
      obtain ⟨v9, hv9, hM⟩ := Option.bind_eq_some_iff.mp hM
      have q10 : Steps p.tables e below (T0.setTop (mkF m 52 #[.val (.ref o0), .val (.ref o1), .val (.int p2), .val (.ref b), .val (.int i), .val (.int z5), .val (.int z6), s7, .unset] [])) (T0.setTop (mkF m 70 #[.val (.ref o0), .val (.ref o1), .val (.int p2), .val (.ref b), .val (.int i), .val (.int z5), .val (.int z6), s7, .unset] [(.int v9), (.int v6), (.int i), (.ref b)])) := q8.trans (Own.ldO X0 hx hZ e0 I_b hv9 (g := (mkF m 69 #[.val (.ref o0), .val (.ref o1), .val (.int p2), .val (.ref b), .val (.int i), .val (.int z5), .val (.int z6), s7, .unset] [(.int (i - (1 : Int32))), (.ref b), (.int v6), (.int i), (.ref b)])) rfl rfl (hb hby d3_69) _ (Steps.refl _))
      have q11 : Steps p.tables e below (T0.setTop (mkF m 52 #[.val (.ref o0), .val (.ref o1), .val (.int p2), .val (.ref b), .val (.int i), .val (.int z5), .val (.int z6), s7, .unset] [])) (T0.setTop (mkF m 71 #[.val (.ref o0), .val (.ref o1), .val (.int p2), .val (.ref b), .val (.int i), .val (.int z5), .val (.int z6), s7, .unset] [(.int (v6 + v9)), (.int i), (.ref b)])) := q10.trans (by
          show Steps p.tables e below (T0.setTop (mkF m 70 #[.val (.ref o0), .val (.ref o1), .val (.int p2), .val (.ref b), .val (.int i), .val (.int z5), .val (.int z6), s7, .unset] [(.int v9), (.int v6), (.int i), (.ref b)])) _
          refine XS.iadd X0.here hx rfl (hb hby d3_70) rfl ?_
          show Steps p.tables e below (T0.setTop (mkF m 71 #[.val (.ref o0), .val (.ref o1), .val (.int p2), .val (.ref b), .val (.int i), .val (.int z5), .val (.int z6), s7, .unset] [(.int (v6 + v9)), (.int i), (.ref b)])) _
          exact Steps.refl _)
      obtain ⟨y12, hy12, hM⟩ := Option.bind_eq_some_iff.mp hM
      obtain ⟨T13, h13, X13, e13, W13, J13, st13⟩ := Own.stO X0 hx hZ e0 I_b hy12 (g := (mkF m 71 #[.val (.ref o0), .val (.ref o1), .val (.int p2), .val (.ref b), .val (.int i), .val (.int z5), .val (.int z6), s7, .unset] [(.int (v6 + v9)), (.int i), (.ref b)])) rfl rfl (hb hby d3_71)
      have N13 := Fr.snoc X13 N0 ge_b
      have Z13 : n0 ≤ h13.size := Own.size_wr W13 Z0
      have K13 : Keep h0 h13 [b] := K0.wr W13 (Or.inl (List.mem_of_getElem? (i := 0) rfl))
      have q14 : Steps p.tables e below (T0.setTop (mkF m 52 #[.val (.ref o0), .val (.ref o1), .val (.int p2), .val (.ref b), .val (.int i), .val (.int z5), .val (.int z6), s7, .unset] [])) (T13.setTop (mkF m 72 #[.val (.ref o0), .val (.ref o1), .val (.int p2), .val (.ref b), .val (.int i), .val (.int z5), .val (.int z6), s7, .unset] [])) := q11.trans (st13 _ (Steps.refl _))
      have q15 : Steps p.tables e below (T0.setTop (mkF m 52 #[.val (.ref o0), .val (.ref o1), .val (.int p2), .val (.ref b), .val (.int i), .val (.int z5), .val (.int z6), s7, .unset] [])) (T13.setTop (mkF m 52 #[.val (.ref o0), .val (.ref o1), .val (.int p2), .val (.ref b), .val (.int (i + (1 : Int32))), .val (.int z5), .val (.int z6), s7, .unset] [])) := q14.trans (by
          show Steps p.tables e below (T13.setTop (mkF m 72 #[.val (.ref o0), .val (.ref o1), .val (.int p2), .val (.ref b), .val (.int i), .val (.int z5), .val (.int z6), s7, .unset] [])) _
          refine XS.iinc X13.here hx rfl (hb hby d3_72) rfl (l' := #[.val (.ref o0), .val (.ref o1), .val (.int p2), .val (.ref b), .val (.int (i + (1 : Int32))), .val (.int z5), .val (.int z6), s7, .unset]) rfl ?_
          show Steps p.tables e below (T13.setTop (mkF m 75 #[.val (.ref o0), .val (.ref o1), .val (.int p2), .val (.ref b), .val (.int (i + (1 : Int32))), .val (.int z5), .val (.int z6), s7, .unset] [])) _
          refine XS.goto X13.here hx rfl (pc0 := 75) (pc' := 52) rfl (hb hby d3_75) (by decide) (by decide) ?_
          show Steps p.tables e below (T13.setTop (mkF m 52 #[.val (.ref o0), .val (.ref o1), .val (.int p2), .val (.ref b), .val (.int (i + (1 : Int32))), .val (.int z5), .val (.int z6), s7, .unset] [])) _
          exact Steps.refl _)
      obtain ⟨T', locs', h', X', e', N', Z', K', J0', q'⟩ := ih (i + (1 : Int32)) y12  _ hM X13 e13 N13 Z13  J13
      exact ⟨T', locs', h', X', e', N', Z', K13.trans K' (fun _ hx' => Or.inl hx'), J0', q15.trans q'⟩
    · rw [if_neg hc3] at hM
      have q16 : Steps p.tables e below (T0.setTop (mkF m 52 #[.val (.ref o0), .val (.ref o1), .val (.int p2), .val (.ref b), .val (.int i), .val (.int z5), .val (.int z6), s7, .unset] [])) (T0.setTop (mkF m 78 #[.val (.ref o0), .val (.ref o1), .val (.int p2), .val (.ref b), .val (.int i), .val (.int z5), .val (.int z6), s7, .unset] [])) := q1.trans (by
          show Steps p.tables e below (T0.setTop (mkF m 56 #[.val (.ref o0), .val (.ref o1), .val (.int p2), .val (.ref b), .val (.int i), .val (.int z5), .val (.int z6), s7, .unset] [(.int (Own.ln xs)), (.int i)])) _
          refine XS.icmpYes X0.here hx rfl (pc0 := 56) (pc' := 78) rfl (hb hby d3_56) rfl (flt hc3).2.1 (by decide) (by decide) ?_
          show Steps p.tables e below (T0.setTop (mkF m 78 #[.val (.ref o0), .val (.ref o1), .val (.int p2), .val (.ref b), .val (.int i), .val (.int z5), .val (.int z6), s7, .unset] [])) _
          exact Steps.refl _)
      obtain rfl := Option.some.inj hM
      exact ⟨_, _, _, X0, e0, N0, Z0, K0, I_b, q16⟩

theorem d3_95 : decode prog_32_method_5_code 95 = .ok (.iload 7, 2) := by decide +kernel
theorem d3_97 : decode prog_32_method_5_code 97 = .ok (.iload 6, 2) := by decide +kernel
theorem d3_99 : decode prog_32_method_5_code 99 = .ok (.if_icmp .ge 32, 3) := by decide +kernel
theorem d3_102 : decode prog_32_method_5_code 102 = .ok (.aload 5, 2) := by decide +kernel
theorem d3_104 : decode prog_32_method_5_code 104 = .ok (.iload 7, 2) := by decide +kernel
theorem d3_106 : decode prog_32_method_5_code 106 = .ok (.iaload, 1) := by decide +kernel
theorem d3_107 : decode prog_32_method_5_code 107 = .ok (.istore 8, 2) := by decide +kernel
theorem d3_109 : decode prog_32_method_5_code 109 = .ok (.aload 4, 2) := by decide +kernel
theorem d3_111 : decode prog_32_method_5_code 111 = .ok (.aload_n 3, 1) := by decide +kernel
theorem d3_112 : decode prog_32_method_5_code 112 = .ok (.aload_n 1, 1) := by decide +kernel
theorem d3_113 : decode prog_32_method_5_code 113 = .ok (.iload 8, 2) := by decide +kernel
theorem d3_115 : decode prog_32_method_5_code 115 = .ok (.iaload, 1) := by decide +kernel
theorem d3_116 : decode prog_32_method_5_code 116 = .ok (.dup2, 1) := by decide +kernel
theorem d3_117 : decode prog_32_method_5_code 117 = .ok (.iaload, 1) := by decide +kernel
theorem d3_118 : decode prog_32_method_5_code 118 = .ok (.dup_x2, 1) := by decide +kernel
theorem d3_119 : decode prog_32_method_5_code 119 = .ok (.iconst 1, 1) := by decide +kernel
theorem d3_120 : decode prog_32_method_5_code 120 = .ok (.iadd, 1) := by decide +kernel
theorem d3_121 : decode prog_32_method_5_code 121 = .ok (.iastore, 1) := by decide +kernel
theorem d3_122 : decode prog_32_method_5_code 122 = .ok (.iload 8, 2) := by decide +kernel
theorem d3_124 : decode prog_32_method_5_code 124 = .ok (.iastore, 1) := by decide +kernel
theorem d3_125 : decode prog_32_method_5_code 125 = .ok (.iinc 7 1, 3) := by decide +kernel
theorem d3_128 : decode prog_32_method_5_code 128 = .ok (.goto (-33), 3) := by decide +kernel
def M_lp3 : Nat → Int32 → List Int32 → List Int32 → Int32 → List Int32 → List Int32 → Option (Int32 × List Int32 × List Int32)
  | 0, _, _, _, _, _, _ => none
  | k + 1, nn, xi, xk, i, xs, zs => (if i < nn then (Own.rd xi i).bind fun v6 => (Own.rd xk v6).bind fun v9 => (Own.rd xs v9).bind fun v12 => (Own.wt xs v9 (v12 + (1 : Int32))).bind fun y15 => (Own.wt zs v12 v6).bind fun y19 => M_lp3 k nn xi xk (i + (1 : Int32)) y15 y19 else some (i, xs, zs))
theorem M_lp3_s (k : Nat) (nn : Int32) (xi : List Int32) (xk : List Int32) (i : Int32) (xs : List Int32) (zs : List Int32) : M_lp3 (k + 1) nn xi xk i xs zs = (if i < nn then (Own.rd xi i).bind fun v6 => (Own.rd xk v6).bind fun v9 => (Own.rd xs v9).bind fun v12 => (Own.wt xs v9 (v12 + (1 : Int32))).bind fun y15 => (Own.wt zs v12 v6).bind fun y19 => M_lp3 k nn xi xk (i + (1 : Int32)) y15 y19 else some (i, xs, zs)) := rfl
set_option maxRecDepth 65536 in
set_option maxHeartbeats 40000000 in
theorem lp3 {p : Program} {l : Launch} {e : Env} {R : Room} {s : State} {m : MethodId} {args : Array Value} {below : List Frame} {meth : Method} {c : Code} {Z : State} {a0 : Array Value} {n0 cells slots : Nat} (hx : p.tables.exec = Jvm.exec) (hZ : Z.Warmed39 s.vm) (hw : ∀ d ∈ tables_1, d.before a0 Z = true) (hby : c.code = prog_32_method_5_code) (hml : c.maxLocals = 9) (hown : s.vm.findClass "com/example/pareto_workflow_scheduler/paretoworkflowscheduler/algorithm/Sorts" = some m.cls) (o0 o1 b d : Addr) (p2 : Int32) (nn : Int32) (xi : List Int32) (xk : List Int32) (ge_b : n0 ≤ b) (ge_d : n0 ≤ d) (ne_o0_b : o0 ≠ b) (ne_o1_b : o1 ≠ b) (ne_o0_d : o0 ≠ d) (ne_o1_d : o1 ≠ d) (ne_b_d : b ≠ d) (k : Nat) : ∀ {T0 : State} {locs : List Loc} {h0 : Heap} (i : Int32) (xs : List Int32) (zs : List Int32) (s8 : Slot) (out : Int32 × List Int32 × List Int32) (hM : M_lp3 k nn xi xk i xs zs = some out) (X0 : Stand p l e R s m args below meth c T0 locs cells slots) (e0 : T0.heap = h0) (N0 : Fr n0 locs) (Z0 : n0 ≤ h0.size) (os_s8 : One s8) (I_o0 : Own.IA Z h0 o0 xi) (I_o1 : Own.IA Z h0 o1 xk) (I_b : Own.IA Z h0 b xs) (I_d : Own.IA Z h0 d zs),
    ∃ (T' : State) (locs' : List Loc) (h' : Heap) (s8' : Slot), Stand p l e R s m args below meth c T' locs' cells slots ∧ T'.heap = h' ∧ Fr n0 locs' ∧ n0 ≤ h'.size ∧ Keep h0 h' [b, d] ∧ One s8' ∧ Own.IA Z h' b out.2.1 ∧ Own.IA Z h' d out.2.2 ∧ Steps p.tables e below (T0.setTop (mkF m 95 #[.val (.ref o0), .val (.ref o1), .val (.int p2), .val (.ref b), .val (.ref d), .val (.ref o0), .val (.int nn), .val (.int i), s8] [])) (T'.setTop (mkF m 131 #[.val (.ref o0), .val (.ref o1), .val (.int p2), .val (.ref b), .val (.ref d), .val (.ref o0), .val (.int nn), .val (.int out.1), s8'] [])) := by
  induction k with
  | zero => intro T0 locs h0 i xs zs s8 out hM X0 e0 N0 Z0 os_s8 I_o0 I_o1 I_b I_d; cases hM
  | succ k ih =>
    intro T0 locs h0 i xs zs s8 out hM X0 e0 N0 Z0 os_s8 I_o0 I_o1 I_b I_d
    rw [M_lp3_s] at hM
    have q0 : Steps p.tables e below (T0.setTop (mkF m 95 #[.val (.ref o0), .val (.ref o1), .val (.int p2), .val (.ref b), .val (.ref d), .val (.ref o0), .val (.int nn), .val (.int i), s8] [])) (T0.setTop (mkF m 95 #[.val (.ref o0), .val (.ref o1), .val (.int p2), .val (.ref b), .val (.ref d), .val (.ref o0), .val (.int nn), .val (.int i), s8] [])) := Steps.refl _
    have K0 : Keep h0 h0 [b, d] := Keep.refl _ _
    have q1 : Steps p.tables e below (T0.setTop (mkF m 95 #[.val (.ref o0), .val (.ref o1), .val (.int p2), .val (.ref b), .val (.ref d), .val (.ref o0), .val (.int nn), .val (.int i), s8] [])) (T0.setTop (mkF m 99 #[.val (.ref o0), .val (.ref o1), .val (.int p2), .val (.ref b), .val (.ref d), .val (.ref o0), .val (.int nn), .val (.int i), s8] [(.int nn), (.int i)])) := q0.trans (by
        show Steps p.tables e below (T0.setTop (mkF m 95 #[.val (.ref o0), .val (.ref o1), .val (.int p2), .val (.ref b), .val (.ref d), .val (.ref o0), .val (.int nn), .val (.int i), s8] [])) _
        refine XS.iload X0.here hx rfl (hb hby d3_95) rfl ?_
        show Steps p.tables e below (T0.setTop (mkF m 97 #[.val (.ref o0), .val (.ref o1), .val (.int p2), .val (.ref b), .val (.ref d), .val (.ref o0), .val (.int nn), .val (.int i), s8] [(.int i)])) _
        refine XS.iload X0.here hx rfl (hb hby d3_97) rfl ?_
        show Steps p.tables e below (T0.setTop (mkF m 99 #[.val (.ref o0), .val (.ref o1), .val (.int p2), .val (.ref b), .val (.ref d), .val (.ref o0), .val (.int nn), .val (.int i), s8] [(.int nn), (.int i)])) _
        exact Steps.refl _)
    by_cases hc3 : i < nn
    · rw [if_pos hc3] at hM
      have q4 : Steps p.tables e below (T0.setTop (mkF m 95 #[.val (.ref o0), .val (.ref o1), .val (.int p2), .val (.ref b), .val (.ref d), .val (.ref o0), .val (.int nn), .val (.int i), s8] [])) (T0.setTop (mkF m 102 #[.val (.ref o0), .val (.ref o1), .val (.int p2), .val (.ref b), .val (.ref d), .val (.ref o0), .val (.int nn), .val (.int i), s8] [])) := q1.trans (by
          show Steps p.tables e below (T0.setTop (mkF m 99 #[.val (.ref o0), .val (.ref o1), .val (.int p2), .val (.ref b), .val (.ref d), .val (.ref o0), .val (.int nn), .val (.int i), s8] [(.int nn), (.int i)])) _
          refine XS.icmpNo X0.here hx rfl (hb hby d3_99) rfl (tlt hc3).2.1 ?_
          show Steps p.tables e below (T0.setTop (mkF m 102 #[.val (.ref o0), .val (.ref o1), .val (.int p2), .val (.ref b), .val (.ref d), .val (.ref o0), .val (.int nn), .val (.int i), s8] [])) _
          exact Steps.refl _)
      have q5 : Steps p.tables e below (T0.setTop (mkF m 95 #[.val (.ref o0), .val (.ref o1), .val (.int p2), .val (.ref b), .val (.ref d), .val (.ref o0), .val (.int nn), .val (.int i), s8] [])) (T0.setTop (mkF m 106 #[.val (.ref o0), .val (.ref o1), .val (.int p2), .val (.ref b), .val (.ref d), .val (.ref o0), .val (.int nn), .val (.int i), s8] [(.int i), (.ref o0)])) := q4.trans (by
          show Steps p.tables e below (T0.setTop (mkF m 102 #[.val (.ref o0), .val (.ref o1), .val (.int p2), .val (.ref b), .val (.ref d), .val (.ref o0), .val (.int nn), .val (.int i), s8] [])) _
          refine XS.aload X0.here hx rfl (hb hby d3_102) rfl rfl ?_
          show Steps p.tables e below (T0.setTop (mkF m 104 #[.val (.ref o0), .val (.ref o1), .val (.int p2), .val (.ref b), .val (.ref d), .val (.ref o0), .val (.int nn), .val (.int i), s8] [(.ref o0)])) _
          refine XS.iload X0.here hx rfl (hb hby d3_104) rfl ?_
          show Steps p.tables e below (T0.setTop (mkF m 106 #[.val (.ref o0), .val (.ref o1), .val (.int p2), .val (.ref b), .val (.ref d), .val (.ref o0), .val (.int nn), .val (.int i), s8] [(.int i), (.ref o0)])) _
          exact Steps.refl _)
      obtain ⟨v6, hv6, hM⟩ := Option.bind_eq_some_iff.mp hM
      have q7 : Steps p.tables e below (T0.setTop (mkF m 95 #[.val (.ref o0), .val (.ref o1), .val (.int p2), .val (.ref b), .val (.ref d), .val (.ref o0), .val (.int nn), .val (.int i), s8] [])) (T0.setTop (mkF m 107 #[.val (.ref o0), .val (.ref o1), .val (.int p2), .val (.ref b), .val (.ref d), .val (.ref o0), .val (.int nn), .val (.int i), s8] [(.int v6)])) := q5.trans (Own.ldO X0 hx hZ e0 I_o0 hv6 (g := (mkF m 106 #[.val (.ref o0), .val (.ref o1), .val (.int p2), .val (.ref b), .val (.ref d), .val (.ref o0), .val (.int nn), .val (.int i), s8] [(.int i), (.ref o0)])) rfl rfl (hb hby d3_106) _ (Steps.refl _))
      have q8 : Steps p.tables e below (T0.setTop (mkF m 95 #[.val (.ref o0), .val (.ref o1), .val (.int p2), .val (.ref b), .val (.ref d), .val (.ref o0), .val (.int nn), .val (.int i), s8] [])) (T0.setTop (mkF m 115 #[.val (.ref o0), .val (.ref o1), .val (.int p2), .val (.ref b), .val (.ref d), .val (.ref o0), .val (.int nn), .val (.int i), .val (.int v6)] [(.int v6), (.ref o1), (.ref b), (.ref d)])) := q7.trans (by
          show Steps p.tables e below (T0.setTop (mkF m 107 #[.val (.ref o0), .val (.ref o1), .val (.int p2), .val (.ref b), .val (.ref d), .val (.ref o0), .val (.int nn), .val (.int i), s8] [(.int v6)])) _
          refine XS.istoreS X0.here hx rfl (hb hby d3_107) rfl rfl os_s8 ?_
          show Steps p.tables e below (T0.setTop (mkF m 109 #[.val (.ref o0), .val (.ref o1), .val (.int p2), .val (.ref b), .val (.ref d), .val (.ref o0), .val (.int nn), .val (.int i), .val (.int v6)] [])) _
          refine XS.aload X0.here hx rfl (hb hby d3_109) rfl rfl ?_
          show Steps p.tables e below (T0.setTop (mkF m 111 #[.val (.ref o0), .val (.ref o1), .val (.int p2), .val (.ref b), .val (.ref d), .val (.ref o0), .val (.int nn), .val (.int i), .val (.int v6)] [(.ref d)])) _
          refine XS.aloadN X0.here hx rfl (hb hby d3_111) rfl rfl ?_
          show Steps p.tables e below (T0.setTop (mkF m 112 #[.val (.ref o0), .val (.ref o1), .val (.int p2), .val (.ref b), .val (.ref d), .val (.ref o0), .val (.int nn), .val (.int i), .val (.int v6)] [(.ref b), (.ref d)])) _
          refine XS.aloadN X0.here hx rfl (hb hby d3_112) rfl rfl ?_
          show Steps p.tables e below (T0.setTop (mkF m 113 #[.val (.ref o0), .val (.ref o1), .val (.int p2), .val (.ref b), .val (.ref d), .val (.ref o0), .val (.int nn), .val (.int i), .val (.int v6)] [(.ref o1), (.ref b), (.ref d)])) _
          refine XS.iload X0.here hx rfl (hb hby d3_113) rfl ?_
          show Steps p.tables e below (T0.setTop (mkF m 115 #[.val (.ref o0), .val (.ref o1), .val (.int p2), .val (.ref b), .val (.ref d), .val (.ref o0), .val (.int nn), .val (.int i), .val (.int v6)] [(.int v6), (.ref o1), (.ref b), (.ref d)])) _
          exact Steps.refl _)
      obtain ⟨v9, hv9, hM⟩ := Option.bind_eq_some_iff.mp hM
      have q10 : Steps p.tables e below (T0.setTop (mkF m 95 #[.val (.ref o0), .val (.ref o1), .val (.int p2), .val (.ref b), .val (.ref d), .val (.ref o0), .val (.int nn), .val (.int i), s8] [])) (T0.setTop (mkF m 116 #[.val (.ref o0), .val (.ref o1), .val (.int p2), .val (.ref b), .val (.ref d), .val (.ref o0), .val (.int nn), .val (.int i), .val (.int v6)] [(.int v9), (.ref b), (.ref d)])) := q8.trans (Own.ldO X0 hx hZ e0 I_o1 hv9 (g := (mkF m 115 #[.val (.ref o0), .val (.ref o1), .val (.int p2), .val (.ref b), .val (.ref d), .val (.ref o0), .val (.int nn), .val (.int i), .val (.int v6)] [(.int v6), (.ref o1), (.ref b), (.ref d)])) rfl rfl (hb hby d3_115) _ (Steps.refl _))
      have q11 : Steps p.tables e below (T0.setTop (mkF m 95 #[.val (.ref o0), .val (.ref o1), .val (.int p2), .val (.ref b), .val (.ref d), .val (.ref o0), .val (.int nn), .val (.int i), s8] [])) (T0.setTop (mkF m 117 #[.val (.ref o0), .val (.ref o1), .val (.int p2), .val (.ref b), .val (.ref d), .val (.ref o0), .val (.int nn), .val (.int i), .val (.int v6)] [(.int v9), (.ref b), (.int v9), (.ref b), (.ref d)])) := q10.trans (by
          show Steps p.tables e below (T0.setTop (mkF m 116 #[.val (.ref o0), .val (.ref o1), .val (.int p2), .val (.ref b), .val (.ref d), .val (.ref o0), .val (.int nn), .val (.int i), .val (.int v6)] [(.int v9), (.ref b), (.ref d)])) _
          refine XT.dup2 X0.here hx rfl (hb hby d3_116) rfl rfl rfl ?_
          show Steps p.tables e below (T0.setTop (mkF m 117 #[.val (.ref o0), .val (.ref o1), .val (.int p2), .val (.ref b), .val (.ref d), .val (.ref o0), .val (.int nn), .val (.int i), .val (.int v6)] [(.int v9), (.ref b), (.int v9), (.ref b), (.ref d)])) _
          exact Steps.refl _)
      obtain ⟨v12, hv12, hM⟩ := Option.bind_eq_some_iff.mp hM
      have q13 : Steps p.tables e below (T0.setTop (mkF m 95 #[.val (.ref o0), .val (.ref o1), .val (.int p2), .val (.ref b), .val (.ref d), .val (.ref o0), .val (.int nn), .val (.int i), s8] [])) (T0.setTop (mkF m 118 #[.val (.ref o0), .val (.ref o1), .val (.int p2), .val (.ref b), .val (.ref d), .val (.ref o0), .val (.int nn), .val (.int i), .val (.int v6)] [(.int v12), (.int v9), (.ref b), (.ref d)])) := q11.trans (Own.ldO X0 hx hZ e0 I_b hv12 (g := (mkF m 117 #[.val (.ref o0), .val (.ref o1), .val (.int p2), .val (.ref b), .val (.ref d), .val (.ref o0), .val (.int nn), .val (.int i), .val (.int v6)] [(.int v9), (.ref b), (.int v9), (.ref b), (.ref d)])) rfl rfl (hb hby d3_117) _ (Steps.refl _))
      have q14 : Steps p.tables e below (T0.setTop (mkF m 95 #[.val (.ref o0), .val (.ref o1), .val (.int p2), .val (.ref b), .val (.ref d), .val (.ref o0), .val (.int nn), .val (.int i), s8] [])) (T0.setTop (mkF m 121 #[.val (.ref o0), .val (.ref o1), .val (.int p2), .val (.ref b), .val (.ref d), .val (.ref o0), .val (.int nn), .val (.int i), .val (.int v6)] [(.int (v12 + (1 : Int32))), (.int v9), (.ref b), (.int v12), (.ref d)])) := q13.trans (by
          show Steps p.tables e below (T0.setTop (mkF m 118 #[.val (.ref o0), .val (.ref o1), .val (.int p2), .val (.ref b), .val (.ref d), .val (.ref o0), .val (.int nn), .val (.int i), .val (.int v6)] [(.int v12), (.int v9), (.ref b), (.ref d)])) _
          jvm_step X0.here [X0.here.top, hx, (hb hby d3_118), Value.category]
          show Steps p.tables e below (T0.setTop (mkF m 119 #[.val (.ref o0), .val (.ref o1), .val (.int p2), .val (.ref b), .val (.ref d), .val (.ref o0), .val (.int nn), .val (.int i), .val (.int v6)] [(.int v12), (.int v9), (.ref b), (.int v12), (.ref d)])) _
          refine XS.iconst X0.here hx rfl (hb hby d3_119) ?_
          show Steps p.tables e below (T0.setTop (mkF m 120 #[.val (.ref o0), .val (.ref o1), .val (.int p2), .val (.ref b), .val (.ref d), .val (.ref o0), .val (.int nn), .val (.int i), .val (.int v6)] [(.int (1 : Int32)), (.int v12), (.int v9), (.ref b), (.int v12), (.ref d)])) _
          refine XS.iadd X0.here hx rfl (hb hby d3_120) rfl ?_
          show Steps p.tables e below (T0.setTop (mkF m 121 #[.val (.ref o0), .val (.ref o1), .val (.int p2), .val (.ref b), .val (.ref d), .val (.ref o0), .val (.int nn), .val (.int i), .val (.int v6)] [(.int (v12 + (1 : Int32))), (.int v9), (.ref b), (.int v12), (.ref d)])) _
          exact Steps.refl _)
      obtain ⟨y15, hy15, hM⟩ := Option.bind_eq_some_iff.mp hM
      obtain ⟨T16, h16, X16, e16, W16, J16, st16⟩ := Own.stO X0 hx hZ e0 I_b hy15 (g := (mkF m 121 #[.val (.ref o0), .val (.ref o1), .val (.int p2), .val (.ref b), .val (.ref d), .val (.ref o0), .val (.int nn), .val (.int i), .val (.int v6)] [(.int (v12 + (1 : Int32))), (.int v9), (.ref b), (.int v12), (.ref d)])) rfl rfl (hb hby d3_121)
      have N16 := Fr.snoc X16 N0 ge_b
      have Io0_16 := I_o0.other W16 ne_o0_b
      have Io1_16 := I_o1.other W16 ne_o1_b
      have Id_16 := I_d.other W16 (Ne.symm ne_b_d)
      have Z16 : n0 ≤ h16.size := Own.size_wr W16 Z0
      have K16 : Keep h0 h16 [b, d] := K0.wr W16 (Or.inl (List.mem_of_getElem? (i := 0) rfl))
      have q17 : Steps p.tables e below (T0.setTop (mkF m 95 #[.val (.ref o0), .val (.ref o1), .val (.int p2), .val (.ref b), .val (.ref d), .val (.ref o0), .val (.int nn), .val (.int i), s8] [])) (T16.setTop (mkF m 122 #[.val (.ref o0), .val (.ref o1), .val (.int p2), .val (.ref b), .val (.ref d), .val (.ref o0), .val (.int nn), .val (.int i), .val (.int v6)] [(.int v12), (.ref d)])) := q14.trans (st16 _ (Steps.refl _))
      have q18 : Steps p.tables e below (T0.setTop (mkF m 95 #[.val (.ref o0), .val (.ref o1), .val (.int p2), .val (.ref b), .val (.ref d), .val (.ref o0), .val (.int nn), .val (.int i), s8] [])) (T16.setTop (mkF m 124 #[.val (.ref o0), .val (.ref o1), .val (.int p2), .val (.ref b), .val (.ref d), .val (.ref o0), .val (.int nn), .val (.int i), .val (.int v6)] [(.int v6), (.int v12), (.ref d)])) := q17.trans (by
          show Steps p.tables e below (T16.setTop (mkF m 122 #[.val (.ref o0), .val (.ref o1), .val (.int p2), .val (.ref b), .val (.ref d), .val (.ref o0), .val (.int nn), .val (.int i), .val (.int v6)] [(.int v12), (.ref d)])) _
          refine XS.iload X16.here hx rfl (hb hby d3_122) rfl ?_
          show Steps p.tables e below (T16.setTop (mkF m 124 #[.val (.ref o0), .val (.ref o1), .val (.int p2), .val (.ref b), .val (.ref d), .val (.ref o0), .val (.int nn), .val (.int i), .val (.int v6)] [(.int v6), (.int v12), (.ref d)])) _
          exact Steps.refl _)
      obtain ⟨y19, hy19, hM⟩ := Option.bind_eq_some_iff.mp hM
      obtain ⟨T20, h20, X20, e20, W20, J20, st20⟩ := Own.stO X16 hx hZ e16 Id_16 hy19 (g := (mkF m 124 #[.val (.ref o0), .val (.ref o1), .val (.int p2), .val (.ref b), .val (.ref d), .val (.ref o0), .val (.int nn), .val (.int i), .val (.int v6)] [(.int v6), (.int v12), (.ref d)])) rfl rfl (hb hby d3_124)
      have N20 := Fr.snoc X20 N16 ge_d
      have Io0_20 := Io0_16.other W20 ne_o0_d
      have Io1_20 := Io1_16.other W20 ne_o1_d
      have Ib_20 := J16.other W20 ne_b_d
      have Z20 : n0 ≤ h20.size := Own.size_wr W20 Z16
      have K20 : Keep h0 h20 [b, d] := K16.wr W20 (Or.inl (List.mem_of_getElem? (i := 1) rfl))
      have q21 : Steps p.tables e below (T0.setTop (mkF m 95 #[.val (.ref o0), .val (.ref o1), .val (.int p2), .val (.ref b), .val (.ref d), .val (.ref o0), .val (.int nn), .val (.int i), s8] [])) (T20.setTop (mkF m 125 #[.val (.ref o0), .val (.ref o1), .val (.int p2), .val (.ref b), .val (.ref d), .val (.ref o0), .val (.int nn), .val (.int i), .val (.int v6)] [])) := q18.trans (st20 _ (Steps.refl _))
      have q22 : Steps p.tables e below (T0.setTop (mkF m 95 #[.val (.ref o0), .val (.ref o1), .val (.int p2), .val (.ref b), .val (.ref d), .val (.ref o0), .val (.int nn), .val (.int i), s8] [])) (T20.setTop (mkF m 95 #[.val (.ref o0), .val (.ref o1), .val (.int p2), .val (.ref b), .val (.ref d), .val (.ref o0), .val (.int nn), .val (.int (i + (1 : Int32))), .val (.int v6)] [])) := q21.trans (by
          show Steps p.tables e below (T20.setTop (mkF m 125 #[.val (.ref o0), .val (.ref o1), .val (.int p2), .val (.ref b), .val (.ref d), .val (.ref o0), .val (.int nn), .val (.int i), .val (.int v6)] [])) _
          refine XS.iinc X20.here hx rfl (hb hby d3_125) rfl (l' := #[.val (.ref o0), .val (.ref o1), .val (.int p2), .val (.ref b), .val (.ref d), .val (.ref o0), .val (.int nn), .val (.int (i + (1 : Int32))), .val (.int v6)]) rfl ?_
          show Steps p.tables e below (T20.setTop (mkF m 128 #[.val (.ref o0), .val (.ref o1), .val (.int p2), .val (.ref b), .val (.ref d), .val (.ref o0), .val (.int nn), .val (.int (i + (1 : Int32))), .val (.int v6)] [])) _
          refine XS.goto X20.here hx rfl (pc0 := 128) (pc' := 95) rfl (hb hby d3_128) (by decide) (by decide) ?_
          show Steps p.tables e below (T20.setTop (mkF m 95 #[.val (.ref o0), .val (.ref o1), .val (.int p2), .val (.ref b), .val (.ref d), .val (.ref o0), .val (.int nn), .val (.int (i + (1 : Int32))), .val (.int v6)] [])) _
          exact Steps.refl _)
      obtain ⟨T', locs', h', u0, X', e', N', Z', K', o0_, J0', J1', q'⟩ := ih (i + (1 : Int32)) y15 y19 (.val (.int v6)) _ hM X20 e20 N20 Z20 (One.val rfl) Io0_20 Io1_20 Ib_20 J20
      exact ⟨T', locs', h', u0, X', e', N', Z', K20.trans K' (fun _ hx' => Or.inl hx'), o0_, J0', J1', q22.trans q'⟩
    · rw [if_neg hc3] at hM
      have q23 : Steps p.tables e below (T0.setTop (mkF m 95 #[.val (.ref o0), .val (.ref o1), .val (.int p2), .val (.ref b), .val (.ref d), .val (.ref o0), .val (.int nn), .val (.int i), s8] [])) (T0.setTop (mkF m 131 #[.val (.ref o0), .val (.ref o1), .val (.int p2), .val (.ref b), .val (.ref d), .val (.ref o0), .val (.int nn), .val (.int i), s8] [])) := q1.trans (by
          show Steps p.tables e below (T0.setTop (mkF m 99 #[.val (.ref o0), .val (.ref o1), .val (.int p2), .val (.ref b), .val (.ref d), .val (.ref o0), .val (.int nn), .val (.int i), s8] [(.int nn), (.int i)])) _
          refine XS.icmpYes X0.here hx rfl (pc0 := 99) (pc' := 131) rfl (hb hby d3_99) rfl (flt hc3).2.1 (by decide) (by decide) ?_
          show Steps p.tables e below (T0.setTop (mkF m 131 #[.val (.ref o0), .val (.ref o1), .val (.int p2), .val (.ref b), .val (.ref d), .val (.ref o0), .val (.int nn), .val (.int i), s8] [])) _
          exact Steps.refl _)
      obtain rfl := Option.some.inj hM
      exact ⟨_, _, _, s8, X0, e0, N0, Z0, K0, os_s8, I_b, I_d, q23⟩

theorem d3_0 : decode prog_32_method_5_code 0 = .ok (.iload_n 2, 1) := by decide +kernel
theorem d3_1 : decode prog_32_method_5_code 1 = .ok (.iconst 1, 1) := by decide +kernel
theorem d3_2 : decode prog_32_method_5_code 2 = .ok (.iadd, 1) := by decide +kernel
theorem d3_3 : decode prog_32_method_5_code 3 = .ok (.newarray .int, 2) := by decide +kernel
theorem d3_5 : decode prog_32_method_5_code 5 = .ok (.astore_n 3, 1) := by decide +kernel
theorem d3_6 : decode prog_32_method_5_code 6 = .ok (.aload_n 0, 1) := by decide +kernel
theorem d3_7 : decode prog_32_method_5_code 7 = .ok (.astore 4, 2) := by decide +kernel
theorem d3_9 : decode prog_32_method_5_code 9 = .ok (.aload 4, 2) := by decide +kernel
theorem d3_11 : decode prog_32_method_5_code 11 = .ok (.arraylength, 1) := by decide +kernel
theorem d3_12 : decode prog_32_method_5_code 12 = .ok (.istore 5, 2) := by decide +kernel
theorem d3_14 : decode prog_32_method_5_code 14 = .ok (.iconst 0, 1) := by decide +kernel
theorem d3_15 : decode prog_32_method_5_code 15 = .ok (.istore 6, 2) := by decide +kernel
theorem d3_49 : decode prog_32_method_5_code 49 = .ok (.iconst 1, 1) := by decide +kernel
theorem d3_50 : decode prog_32_method_5_code 50 = .ok (.istore 4, 2) := by decide +kernel
theorem d3_78 : decode prog_32_method_5_code 78 = .ok (.aload_n 0, 1) := by decide +kernel
theorem d3_79 : decode prog_32_method_5_code 79 = .ok (.arraylength, 1) := by decide +kernel
theorem d3_80 : decode prog_32_method_5_code 80 = .ok (.newarray .int, 2) := by decide +kernel
theorem d3_82 : decode prog_32_method_5_code 82 = .ok (.astore 4, 2) := by decide +kernel
theorem d3_84 : decode prog_32_method_5_code 84 = .ok (.aload_n 0, 1) := by decide +kernel
theorem d3_85 : decode prog_32_method_5_code 85 = .ok (.astore 5, 2) := by decide +kernel
theorem d3_87 : decode prog_32_method_5_code 87 = .ok (.aload 5, 2) := by decide +kernel
theorem d3_89 : decode prog_32_method_5_code 89 = .ok (.arraylength, 1) := by decide +kernel
theorem d3_90 : decode prog_32_method_5_code 90 = .ok (.istore 6, 2) := by decide +kernel
theorem d3_92 : decode prog_32_method_5_code 92 = .ok (.iconst 0, 1) := by decide +kernel
theorem d3_93 : decode prog_32_method_5_code 93 = .ok (.istore 7, 2) := by decide +kernel
theorem d3_131 : decode prog_32_method_5_code 131 = .ok (.aload 4, 2) := by decide +kernel
theorem d3_133 : decode prog_32_method_5_code 133 = .ok (.areturn, 1) := by decide +kernel
theorem pn_rmB : plainName "com/example/pareto_workflow_scheduler/paretoworkflowscheduler/algorithm/Sorts" = true := by first | (simp [plainName, overriddenIn]; done) | decide +kernel
theorem ef_rmB (m : MethodId) (o0 : Addr) (o1 : Addr) (p2 : Int32) : entryFrame m #[(.ref o0), (.ref o1), (.int p2)] 9 = mkF m 0 #[.val (.ref o0), .val (.ref o1), .val (.int p2), .unset, .unset, .unset, .unset, .unset, .unset] [] := by first | (simp [entryFrame, mkF, argsToLocals, Value.category]; done) | rfl
def M_byKey (p2 : Int32) (xi : List Int32) (xk : List Int32) : Option (List Int32) := (Own.mk 9 (p2 + (1 : Int32))).bind fun y2 => (M_lp1 16 (Own.ln xi) xi xk (0 : Int32) y2).bind fun r6 => (M_lp2 16 (1 : Int32) r6.2).bind fun r10 => (Own.mk 4 (Own.ln xi)).bind fun y14 => (M_lp3 16 (Own.ln xi) xi xk (0 : Int32) r10.2 y14).bind fun r18 => some r18.2.2
def Q_rmB (Z : State) (o0 : Addr) (o1 : Addr) (p2 : Int32) (xi : List Int32) (xk : List Int32) (out : List Int32) (h0 : Heap) (n0 : Nat) (v : Option Value) (h : Heap) (L : List Loc) : Prop := ∃ d : Addr, v = some (.ref d) ∧ Fr n0 L ∧ Keep h0 h [] ∧ h0.size ≤ d ∧ Own.IA Z h d out
set_option maxRecDepth 65536 in
set_option maxHeartbeats 40000000 in
theorem rmB (l : Launch) (Z : State) (a0 : Array Value) (hw : ∀ d ∈ tables_1, d.before a0 Z = true) (ws : List Jvm.Cond) (o0 : Addr) (o1 : Addr) (p2 : Int32) (xi : List Int32) (xk : List Int32) (out : List Int32) (h0 : Heap) (n0 : Nat) (Z0 : n0 ≤ h0.size) (I_o0 : Own.IA Z h0 o0 xi) (I_o1 : Own.IA Z h0 o1 xk) (hM : M_byKey p2 xi xk = some out) :
    MetFree l (⟨"com/example/pareto_workflow_scheduler/paretoworkflowscheduler/algorithm/Sorts", "byKey", "([I[II)[I"⟩ : MethodName) (head1 (Jvm.Cond.code (⟨"com/example/pareto_workflow_scheduler/paretoworkflowscheduler/algorithm/Sorts", "byKey", "([I[II)[I"⟩ : MethodName) prog_32_method_5_code 9 (some (.array .int)) :: ws) ({ frames := 0, cells := 2, slots := 13, locals := 0 } : Room)) (fun a U => a = #[(.ref o0), (.ref o1), (.int p2)] ∧ Z.Warmed39 U.vm ∧ U.heap = h0) (fun _ _ _ _ _ => True) (fun _ U o U' => ∃ v L, o = .returned v ∧ Q_rmB Z o0 o1 p2 xi xk out h0 n0 v U'.heap L ∧ FrameEnd U o U' L ({ frames := 0, cells := 2, slots := 13, locals := 0 } : Room).cells ({ frames := 0, cells := 2, slots := 13, locals := 0 } : Room).slots) := by
  refine MetFree.of_bodySF (plainFor_of_name pn_rmB) hisR ?_
  intro p e s m args below meth c s₁ Bd hml0 hP hK
  obtain ⟨rfl, hZ, hh⟩ := hP
  have hx := Bd.exec
  have hby := Bd.bytes
  have hml : c.maxLocals = 9 := hml0
  have hown : s.vm.findClass "com/example/pareto_workflow_scheduler/paretoworkflowscheduler/algorithm/Sorts" = some m.cls := findClass_of_methodNamed Bd.named
  have hnm := (name_of_methodNamed Bd.named Bd.method).1
  have X0 : Stand p l e ({ frames := 0, cells := 2, slots := 13, locals := 0 } : Room) s m #[(.ref o0), (.ref o1), (.int p2)] below meth c s₁ [] 0 0 := Stand.of_body Bd
  have e0 : s₁.heap = h0 := by rw [← hh, Bd.state]; rfl
  have N0 := Fr.nil n0
  have q0 : Steps p.tables e below (s₁.setTop (entryFrame m #[(.ref o0), (.ref o1), (.int p2)] 9)) (s₁.setTop (mkF m 0 #[.val (.ref o0), .val (.ref o1), .val (.int p2), .unset, .unset, .unset, .unset, .unset, .unset] [])) := castTop (ef_rmB m o0 o1 p2) (Steps.refl _)
  unfold M_byKey at hM
  have K0 : Keep h0 h0 [] := Keep.refl _ _
  have q1 : Steps p.tables e below (s₁.setTop (entryFrame m #[(.ref o0), (.ref o1), (.int p2)] 9)) (s₁.setTop (mkF m 3 #[.val (.ref o0), .val (.ref o1), .val (.int p2), .unset, .unset, .unset, .unset, .unset, .unset] [(.int (p2 + (1 : Int32)))])) := q0.trans (by
      show Steps p.tables e below (s₁.setTop (mkF m 0 #[.val (.ref o0), .val (.ref o1), .val (.int p2), .unset, .unset, .unset, .unset, .unset, .unset] [])) _
      refine XS.iloadN X0.here hx rfl (hb hby d3_0) rfl ?_
      show Steps p.tables e below (s₁.setTop (mkF m 1 #[.val (.ref o0), .val (.ref o1), .val (.int p2), .unset, .unset, .unset, .unset, .unset, .unset] [(.int p2)])) _
      refine XS.iconst X0.here hx rfl (hb hby d3_1) ?_
      show Steps p.tables e below (s₁.setTop (mkF m 2 #[.val (.ref o0), .val (.ref o1), .val (.int p2), .unset, .unset, .unset, .unset, .unset, .unset] [(.int (1 : Int32)), (.int p2)])) _
      refine XS.iadd X0.here hx rfl (hb hby d3_2) rfl ?_
      show Steps p.tables e below (s₁.setTop (mkF m 3 #[.val (.ref o0), .val (.ref o1), .val (.int p2), .unset, .unset, .unset, .unset, .unset, .unset] [(.int (p2 + (1 : Int32)))])) _
      exact Steps.refl _)
  obtain ⟨y2, hy2, hM⟩ := Option.bind_eq_some_iff.mp hM
  obtain ⟨T3, h3, k3, X3, e3, E3, A3, AE3, st3⟩ := newPE X0 hx hZ (hw _ (List.mem_of_getElem? (i := 0) rfl)) e0 (g := (mkF m 3 #[.val (.ref o0), .val (.ref o1), .val (.int p2), .unset, .unset, .unset, .unset, .unset, .unset] [(.int (p2 + (1 : Int32)))])) rfl (hb hby d3_3) rfl (Own.mk_some hy2).1 (cap := 9) (Own.mk_some hy2).2.1 (by decide) (by decide) (by decide) (ad := "[I") (by decide)
  obtain ⟨b, g3⟩ : ∃ z, z = h0.size := ⟨_, rfl⟩
  rw [← g3] at A3 AE3 st3
  have ge_b : n0 ≤ b := Nat.le_trans Z0 (Nat.le_of_eq g3.symm)
  have ne_o0_b : o0 ≠ b := Nat.ne_of_lt (Nat.lt_of_lt_of_le I_o0.lt (Nat.le_of_eq g3.symm))
  have ne_o1_b : o1 ≠ b := Nat.ne_of_lt (Nat.lt_of_lt_of_le I_o1.lt (Nat.le_of_eq g3.symm))
  have old_b : h0.size ≤ b := Nat.le_trans K0.1 (Nat.le_of_eq g3.symm)
  have Io0_3 := I_o0.ext E3
  have Io1_3 := I_o1.ext E3
  have Z3 : n0 ≤ h3.size := Nat.le_trans Z0 E3.1
  have K3 : Keep h0 h3 [] := K0.ext E3
  have I_b : Own.IA Z h3 b y2 := (Own.mk_some hy2).2.2 ▸ Own.IA.new A3 rfl
  have q4 : Steps p.tables e below (s₁.setTop (entryFrame m #[(.ref o0), (.ref o1), (.int p2)] 9)) (T3.setTop (mkF m 5 #[.val (.ref o0), .val (.ref o1), .val (.int p2), .unset, .unset, .unset, .unset, .unset, .unset] [(.ref b)])) := q1.trans (st3 _ (Steps.refl _))
  have q5 : Steps p.tables e below (s₁.setTop (entryFrame m #[(.ref o0), (.ref o1), (.int p2)] 9)) (T3.setTop (mkF m 17 #[.val (.ref o0), .val (.ref o1), .val (.int p2), .val (.ref b), .val (.ref o0), .val (.int (Own.ln xi)), .val (.int (0 : Int32)), .unset, .unset] [])) := q4.trans (by
      show Steps p.tables e below (T3.setTop (mkF m 5 #[.val (.ref o0), .val (.ref o1), .val (.int p2), .unset, .unset, .unset, .unset, .unset, .unset] [(.ref b)])) _
      refine XS.astoreN X3.here hx rfl (hb hby d3_5) rfl rfl (l' := #[.val (.ref o0), .val (.ref o1), .val (.int p2), .val (.ref b), .unset, .unset, .unset, .unset, .unset]) rfl ?_
      show Steps p.tables e below (T3.setTop (mkF m 6 #[.val (.ref o0), .val (.ref o1), .val (.int p2), .val (.ref b), .unset, .unset, .unset, .unset, .unset] [])) _
      refine XS.aloadN X3.here hx rfl (hb hby d3_6) rfl rfl ?_
      show Steps p.tables e below (T3.setTop (mkF m 7 #[.val (.ref o0), .val (.ref o1), .val (.int p2), .val (.ref b), .unset, .unset, .unset, .unset, .unset] [(.ref o0)])) _
      refine XS.astore X3.here hx rfl (hb hby d3_7) rfl rfl (l' := #[.val (.ref o0), .val (.ref o1), .val (.int p2), .val (.ref b), .val (.ref o0), .unset, .unset, .unset, .unset]) rfl ?_
      show Steps p.tables e below (T3.setTop (mkF m 9 #[.val (.ref o0), .val (.ref o1), .val (.int p2), .val (.ref b), .val (.ref o0), .unset, .unset, .unset, .unset] [])) _
      refine XS.aload X3.here hx rfl (hb hby d3_9) rfl rfl ?_
      show Steps p.tables e below (T3.setTop (mkF m 11 #[.val (.ref o0), .val (.ref o1), .val (.int p2), .val (.ref b), .val (.ref o0), .unset, .unset, .unset, .unset] [(.ref o0)])) _
      refine Own.lnV X3 hx hZ e3 Io0_3 (z := Own.ln xi) (by rw [List.length_map]; rfl) (g := (mkF m 11 #[.val (.ref o0), .val (.ref o1), .val (.int p2), .val (.ref b), .val (.ref o0), .unset, .unset, .unset, .unset] [(.ref o0)])) rfl rfl (hb hby d3_11) _ ?_
      show Steps p.tables e below (T3.setTop (mkF m 12 #[.val (.ref o0), .val (.ref o1), .val (.int p2), .val (.ref b), .val (.ref o0), .unset, .unset, .unset, .unset] [(.int (Own.ln xi))])) _
      refine XS.istore X3.here hx rfl (hb hby d3_12) rfl (l' := #[.val (.ref o0), .val (.ref o1), .val (.int p2), .val (.ref b), .val (.ref o0), .val (.int (Own.ln xi)), .unset, .unset, .unset]) rfl ?_
      show Steps p.tables e below (T3.setTop (mkF m 14 #[.val (.ref o0), .val (.ref o1), .val (.int p2), .val (.ref b), .val (.ref o0), .val (.int (Own.ln xi)), .unset, .unset, .unset] [])) _
      refine XS.iconst X3.here hx rfl (hb hby d3_14) ?_
      show Steps p.tables e below (T3.setTop (mkF m 15 #[.val (.ref o0), .val (.ref o1), .val (.int p2), .val (.ref b), .val (.ref o0), .val (.int (Own.ln xi)), .unset, .unset, .unset] [(.int (0 : Int32))])) _
      refine XS.istore X3.here hx rfl (hb hby d3_15) rfl (l' := #[.val (.ref o0), .val (.ref o1), .val (.int p2), .val (.ref b), .val (.ref o0), .val (.int (Own.ln xi)), .val (.int (0 : Int32)), .unset, .unset]) rfl ?_
      show Steps p.tables e below (T3.setTop (mkF m 17 #[.val (.ref o0), .val (.ref o1), .val (.int p2), .val (.ref b), .val (.ref o0), .val (.int (Own.ln xi)), .val (.int (0 : Int32)), .unset, .unset] [])) _
      exact Steps.refl _)
  obtain ⟨r6, hr6, hM⟩ := Option.bind_eq_some_iff.mp hM
  obtain ⟨T7, L7, h7, u7_0, X7, e7, N7, Zq7, K7, os_u7_0, J7_0, ql7⟩ := lp1 hx hZ hw hby hml hown o0 o1 b p2 (Own.ln xi) xi xk ge_b ne_o0_b ne_o1_b 16 (0 : Int32) y2 .unset _ hr6 X3 e3 N0 Z3 One.u Io0_3 Io1_3 I_b
  have Io0_7 := Io0_3.keep K7 (ninS ne_o0_b nin0)
  have Io1_7 := Io1_3.keep K7 (ninS ne_o1_b nin0)
  have Z7 : n0 ≤ h7.size := Nat.le_trans Z3 K7.1
  have KK7 : Keep h0 h7 [] := K3.trans K7 (allS (Or.inr old_b) all0)
  have q8 : Steps p.tables e below (s₁.setTop (entryFrame m #[(.ref o0), (.ref o1), (.int p2)] 9)) (T7.setTop (mkF m 49 #[.val (.ref o0), .val (.ref o1), .val (.int p2), .val (.ref b), .val (.ref o0), .val (.int (Own.ln xi)), .val (.int r6.1), u7_0, .unset] [])) := q5.trans ql7
  have q9 : Steps p.tables e below (s₁.setTop (entryFrame m #[(.ref o0), (.ref o1), (.int p2)] 9)) (T7.setTop (mkF m 52 #[.val (.ref o0), .val (.ref o1), .val (.int p2), .val (.ref b), .val (.int (1 : Int32)), .val (.int (Own.ln xi)), .val (.int r6.1), u7_0, .unset] [])) := q8.trans (by
      show Steps p.tables e below (T7.setTop (mkF m 49 #[.val (.ref o0), .val (.ref o1), .val (.int p2), .val (.ref b), .val (.ref o0), .val (.int (Own.ln xi)), .val (.int r6.1), u7_0, .unset] [])) _
      refine XS.iconst X7.here hx rfl (hb hby d3_49) ?_
      show Steps p.tables e below (T7.setTop (mkF m 50 #[.val (.ref o0), .val (.ref o1), .val (.int p2), .val (.ref b), .val (.ref o0), .val (.int (Own.ln xi)), .val (.int r6.1), u7_0, .unset] [(.int (1 : Int32))])) _
      refine XS.istore X7.here hx rfl (hb hby d3_50) rfl (l' := #[.val (.ref o0), .val (.ref o1), .val (.int p2), .val (.ref b), .val (.int (1 : Int32)), .val (.int (Own.ln xi)), .val (.int r6.1), u7_0, .unset]) rfl ?_
      show Steps p.tables e below (T7.setTop (mkF m 52 #[.val (.ref o0), .val (.ref o1), .val (.int p2), .val (.ref b), .val (.int (1 : Int32)), .val (.int (Own.ln xi)), .val (.int r6.1), u7_0, .unset] [])) _
      exact Steps.refl _)
  obtain ⟨r10, hr10, hM⟩ := Option.bind_eq_some_iff.mp hM
  obtain ⟨T11, L11, h11, X11, e11, N11, Zq11, K11, J11_0, ql11⟩ := lp2 hx hZ hw hby hml hown o0 o1 b p2 (Own.ln xi) r6.1 u7_0  ge_b 16 (1 : Int32) r6.2  _ hr10 X7 e7 N7 Z7  J7_0
  have Io0_11 := Io0_7.keep K11 (ninS ne_o0_b nin0)
  have Io1_11 := Io1_7.keep K11 (ninS ne_o1_b nin0)
  have Z11 : n0 ≤ h11.size := Nat.le_trans Z7 K11.1
  have KK11 : Keep h0 h11 [] := KK7.trans K11 (allS (Or.inr old_b) all0)
  have q12 : Steps p.tables e below (s₁.setTop (entryFrame m #[(.ref o0), (.ref o1), (.int p2)] 9)) (T11.setTop (mkF m 78 #[.val (.ref o0), .val (.ref o1), .val (.int p2), .val (.ref b), .val (.int r10.1), .val (.int (Own.ln xi)), .val (.int r6.1), u7_0, .unset] [])) := q9.trans ql11
  have q13 : Steps p.tables e below (s₁.setTop (entryFrame m #[(.ref o0), (.ref o1), (.int p2)] 9)) (T11.setTop (mkF m 80 #[.val (.ref o0), .val (.ref o1), .val (.int p2), .val (.ref b), .val (.int r10.1), .val (.int (Own.ln xi)), .val (.int r6.1), u7_0, .unset] [(.int (Own.ln xi))])) := q12.trans (by
      show Steps p.tables e below (T11.setTop (mkF m 78 #[.val (.ref o0), .val (.ref o1), .val (.int p2), .val (.ref b), .val (.int r10.1), .val (.int (Own.ln xi)), .val (.int r6.1), u7_0, .unset] [])) _
      refine XS.aloadN X11.here hx rfl (hb hby d3_78) rfl rfl ?_
      show Steps p.tables e below (T11.setTop (mkF m 79 #[.val (.ref o0), .val (.ref o1), .val (.int p2), .val (.ref b), .val (.int r10.1), .val (.int (Own.ln xi)), .val (.int r6.1), u7_0, .unset] [(.ref o0)])) _
      refine Own.lnV X11 hx hZ e11 Io0_11 (z := Own.ln xi) (by rw [List.length_map]; rfl) (g := (mkF m 79 #[.val (.ref o0), .val (.ref o1), .val (.int p2), .val (.ref b), .val (.int r10.1), .val (.int (Own.ln xi)), .val (.int r6.1), u7_0, .unset] [(.ref o0)])) rfl rfl (hb hby d3_79) _ ?_
      show Steps p.tables e below (T11.setTop (mkF m 80 #[.val (.ref o0), .val (.ref o1), .val (.int p2), .val (.ref b), .val (.int r10.1), .val (.int (Own.ln xi)), .val (.int r6.1), u7_0, .unset] [(.int (Own.ln xi))])) _
      exact Steps.refl _)
  obtain ⟨y14, hy14, hM⟩ := Option.bind_eq_some_iff.mp hM
  obtain ⟨T15, h15, k15, X15, e15, E15, A15, AE15, st15⟩ := newPE X11 hx hZ (hw _ (List.mem_of_getElem? (i := 0) rfl)) e11 (g := (mkF m 80 #[.val (.ref o0), .val (.ref o1), .val (.int p2), .val (.ref b), .val (.int r10.1), .val (.int (Own.ln xi)), .val (.int r6.1), u7_0, .unset] [(.int (Own.ln xi))])) rfl (hb hby d3_80) rfl (Own.mk_some hy14).1 (cap := 4) (Own.mk_some hy14).2.1 (by decide) (by decide) (by decide) (ad := "[I") (by decide)
  obtain ⟨d, g15⟩ : ∃ z, z = h11.size := ⟨_, rfl⟩
  rw [← g15] at A15 AE15 st15
  have ge_d : n0 ≤ d := Nat.le_trans Z11 (Nat.le_of_eq g15.symm)
  have ne_o0_d : o0 ≠ d := Nat.ne_of_lt (Nat.lt_of_lt_of_le Io0_11.lt (Nat.le_of_eq g15.symm))
  have ne_o1_d : o1 ≠ d := Nat.ne_of_lt (Nat.lt_of_lt_of_le Io1_11.lt (Nat.le_of_eq g15.symm))
  have ne_b_d : b ≠ d := Nat.ne_of_lt (Nat.lt_of_lt_of_le J11_0.lt (Nat.le_of_eq g15.symm))
  have old_d : h0.size ≤ d := Nat.le_trans KK11.1 (Nat.le_of_eq g15.symm)
  have Io0_15 := Io0_11.ext E15
  have Io1_15 := Io1_11.ext E15
  have Ib_15 := J11_0.ext E15
  have Z15 : n0 ≤ h15.size := Nat.le_trans Z11 E15.1
  have K15 : Keep h0 h15 [] := KK11.ext E15
  have I_d : Own.IA Z h15 d y14 := (Own.mk_some hy14).2.2 ▸ Own.IA.new A15 rfl
  have q16 : Steps p.tables e below (s₁.setTop (entryFrame m #[(.ref o0), (.ref o1), (.int p2)] 9)) (T15.setTop (mkF m 82 #[.val (.ref o0), .val (.ref o1), .val (.int p2), .val (.ref b), .val (.int r10.1), .val (.int (Own.ln xi)), .val (.int r6.1), u7_0, .unset] [(.ref d)])) := q13.trans (st15 _ (Steps.refl _))
  have q17 : Steps p.tables e below (s₁.setTop (entryFrame m #[(.ref o0), (.ref o1), (.int p2)] 9)) (T15.setTop (mkF m 95 #[.val (.ref o0), .val (.ref o1), .val (.int p2), .val (.ref b), .val (.ref d), .val (.ref o0), .val (.int (Own.ln xi)), .val (.int (0 : Int32)), .unset] [])) := q16.trans (by
      show Steps p.tables e below (T15.setTop (mkF m 82 #[.val (.ref o0), .val (.ref o1), .val (.int p2), .val (.ref b), .val (.int r10.1), .val (.int (Own.ln xi)), .val (.int r6.1), u7_0, .unset] [(.ref d)])) _
      refine XS.astore X15.here hx rfl (hb hby d3_82) rfl rfl (l' := #[.val (.ref o0), .val (.ref o1), .val (.int p2), .val (.ref b), .val (.ref d), .val (.int (Own.ln xi)), .val (.int r6.1), u7_0, .unset]) rfl ?_
      show Steps p.tables e below (T15.setTop (mkF m 84 #[.val (.ref o0), .val (.ref o1), .val (.int p2), .val (.ref b), .val (.ref d), .val (.int (Own.ln xi)), .val (.int r6.1), u7_0, .unset] [])) _
      refine XS.aloadN X15.here hx rfl (hb hby d3_84) rfl rfl ?_
      show Steps p.tables e below (T15.setTop (mkF m 85 #[.val (.ref o0), .val (.ref o1), .val (.int p2), .val (.ref b), .val (.ref d), .val (.int (Own.ln xi)), .val (.int r6.1), u7_0, .unset] [(.ref o0)])) _
      refine XS.astore X15.here hx rfl (hb hby d3_85) rfl rfl (l' := #[.val (.ref o0), .val (.ref o1), .val (.int p2), .val (.ref b), .val (.ref d), .val (.ref o0), .val (.int r6.1), u7_0, .unset]) rfl ?_
      show Steps p.tables e below (T15.setTop (mkF m 87 #[.val (.ref o0), .val (.ref o1), .val (.int p2), .val (.ref b), .val (.ref d), .val (.ref o0), .val (.int r6.1), u7_0, .unset] [])) _
      refine XS.aload X15.here hx rfl (hb hby d3_87) rfl rfl ?_
      show Steps p.tables e below (T15.setTop (mkF m 89 #[.val (.ref o0), .val (.ref o1), .val (.int p2), .val (.ref b), .val (.ref d), .val (.ref o0), .val (.int r6.1), u7_0, .unset] [(.ref o0)])) _
      refine Own.lnV X15 hx hZ e15 Io0_15 (z := Own.ln xi) (by rw [List.length_map]; rfl) (g := (mkF m 89 #[.val (.ref o0), .val (.ref o1), .val (.int p2), .val (.ref b), .val (.ref d), .val (.ref o0), .val (.int r6.1), u7_0, .unset] [(.ref o0)])) rfl rfl (hb hby d3_89) _ ?_
      show Steps p.tables e below (T15.setTop (mkF m 90 #[.val (.ref o0), .val (.ref o1), .val (.int p2), .val (.ref b), .val (.ref d), .val (.ref o0), .val (.int r6.1), u7_0, .unset] [(.int (Own.ln xi))])) _
      refine XS.istore X15.here hx rfl (hb hby d3_90) rfl (l' := #[.val (.ref o0), .val (.ref o1), .val (.int p2), .val (.ref b), .val (.ref d), .val (.ref o0), .val (.int (Own.ln xi)), u7_0, .unset]) rfl ?_
      show Steps p.tables e below (T15.setTop (mkF m 92 #[.val (.ref o0), .val (.ref o1), .val (.int p2), .val (.ref b), .val (.ref d), .val (.ref o0), .val (.int (Own.ln xi)), u7_0, .unset] [])) _
      refine XS.iconst X15.here hx rfl (hb hby d3_92) ?_
      show Steps p.tables e below (T15.setTop (mkF m 93 #[.val (.ref o0), .val (.ref o1), .val (.int p2), .val (.ref b), .val (.ref d), .val (.ref o0), .val (.int (Own.ln xi)), u7_0, .unset] [(.int (0 : Int32))])) _
      refine XS.istoreS X15.here hx rfl (hb hby d3_93) rfl rfl os_u7_0 ?_
      show Steps p.tables e below (T15.setTop (mkF m 95 #[.val (.ref o0), .val (.ref o1), .val (.int p2), .val (.ref b), .val (.ref d), .val (.ref o0), .val (.int (Own.ln xi)), .val (.int (0 : Int32)), .unset] [])) _
      exact Steps.refl _)
  obtain ⟨r18, hr18, hM⟩ := Option.bind_eq_some_iff.mp hM
  obtain ⟨T19, L19, h19, u19_0, X19, e19, N19, Zq19, K19, os_u19_0, J19_0, J19_1, ql19⟩ := lp3 hx hZ hw hby hml hown o0 o1 b d p2 (Own.ln xi) xi xk ge_b ge_d ne_o0_b ne_o1_b ne_o0_d ne_o1_d ne_b_d 16 (0 : Int32) r10.2 y14 .unset _ hr18 X15 e15 N11 Z15 One.u Io0_15 Io1_15 Ib_15 I_d
  have Io0_19 := Io0_15.keep K19 (ninS ne_o0_b (ninS ne_o0_d nin0))
  have Io1_19 := Io1_15.keep K19 (ninS ne_o1_b (ninS ne_o1_d nin0))
  have Z19 : n0 ≤ h19.size := Nat.le_trans Z15 K19.1
  have KK19 : Keep h0 h19 [] := K15.trans K19 (allS (Or.inr old_b) (allS (Or.inr old_d) all0))
  have q20 : Steps p.tables e below (s₁.setTop (entryFrame m #[(.ref o0), (.ref o1), (.int p2)] 9)) (T19.setTop (mkF m 131 #[.val (.ref o0), .val (.ref o1), .val (.int p2), .val (.ref b), .val (.ref d), .val (.ref o0), .val (.int (Own.ln xi)), .val (.int r18.1), u19_0] [])) := q17.trans ql19
  have q21 : Steps p.tables e below (s₁.setTop (entryFrame m #[(.ref o0), (.ref o1), (.int p2)] 9)) (T19.setTop (mkF m 133 #[.val (.ref o0), .val (.ref o1), .val (.int p2), .val (.ref b), .val (.ref d), .val (.ref o0), .val (.int (Own.ln xi)), .val (.int r18.1), u19_0] [(.ref d)])) := q20.trans (by
      show Steps p.tables e below (T19.setTop (mkF m 131 #[.val (.ref o0), .val (.ref o1), .val (.int p2), .val (.ref b), .val (.ref d), .val (.ref o0), .val (.int (Own.ln xi)), .val (.int r18.1), u19_0] [])) _
      refine XS.aload X19.here hx rfl (hb hby d3_131) rfl rfl ?_
      show Steps p.tables e below (T19.setTop (mkF m 133 #[.val (.ref o0), .val (.ref o1), .val (.int p2), .val (.ref b), .val (.ref d), .val (.ref o0), .val (.int (Own.ln xi)), .val (.int r18.1), u19_0] [(.ref d)])) _
      exact Steps.refl _)
  obtain rfl := Option.some.inj hM
  obtain ⟨fs, hr, hrun, hended, hW, hsame⟩ := X19.leave (v := some (.ref d)) (fun h => by rw [Bd.returns] at h; cases h)
  refine ⟨_, _, q21.trans ?_, hrun, hended, _, _, rfl, ?_, ⟨_, rfl⟩, hW, hsame.mono (by decide) (by decide)⟩
  · exact retA X19 hx Bd.returns rfl rfl (hb hby d3_133) hr
  · show Q_rmB Z o0 o1 p2 xi xk _ h0 n0 _ T19.heap _
    rw [e19]
    exact ⟨d, rfl, N19, KK19, old_d, J19_1⟩

theorem d2_0 : decode method_2_code 0 = .ok (.iload_n 0, 1) := by decide +kernel
theorem d2_1 : decode method_2_code 1 = .ok (.iload_n 2, 1) := by decide +kernel
theorem d2_2 : decode method_2_code 2 = .ok (.if_icmp .ge 5, 3) := by decide +kernel
theorem d2_5 : decode method_2_code 5 = .ok (.iconst 1, 1) := by decide +kernel
theorem d2_6 : decode method_2_code 6 = .ok (.ireturn, 1) := by decide +kernel
theorem d2_7 : decode method_2_code 7 = .ok (.iload_n 0, 1) := by decide +kernel
theorem d2_8 : decode method_2_code 8 = .ok (.iload_n 2, 1) := by decide +kernel
theorem d2_9 : decode method_2_code 9 = .ok (.if_icmp .ne 10, 3) := by decide +kernel
theorem d2_12 : decode method_2_code 12 = .ok (.iload_n 1, 1) := by decide +kernel
theorem d2_13 : decode method_2_code 13 = .ok (.iload_n 3, 1) := by decide +kernel
theorem d2_14 : decode method_2_code 14 = .ok (.if_icmp .ge 5, 3) := by decide +kernel
theorem d2_17 : decode method_2_code 17 = .ok (.iconst 1, 1) := by decide +kernel
theorem d2_18 : decode method_2_code 18 = .ok (.ireturn, 1) := by decide +kernel
theorem d2_19 : decode method_2_code 19 = .ok (.iconst 0, 1) := by decide +kernel
theorem d2_20 : decode method_2_code 20 = .ok (.ireturn, 1) := by decide +kernel
theorem pn_rm1 : plainName "com/example/pareto_workflow_scheduler/paretoworkflowscheduler/algorithm/SortsByKeyPinLaw" = true := by first | (simp [plainName, overriddenIn]; done) | decide +kernel
theorem ef_rm1 (m : MethodId) (p0 : Int32) (p1 : Int32) (p2 : Int32) (p3 : Int32) : entryFrame m #[(.int p0), (.int p1), (.int p2), (.int p3)] 4 = mkF m 0 #[.val (.int p0), .val (.int p1), .val (.int p2), .val (.int p3)] [] := by first | (simp [entryFrame, mkF, argsToLocals, Value.category]; done) | rfl
def F1 (p0 : Int32) (p1 : Int32) (p2 : Int32) (p3 : Int32) : Int32 := (if p0 < p2 then (1 : Int32) else (if p0 = p2 then (if p1 < p3 then (1 : Int32) else (0 : Int32)) else (0 : Int32)))
def Q_rm1 (Z : State) (p0 : Int32) (p1 : Int32) (p2 : Int32) (p3 : Int32) (h0 : Heap) (n0 : Nat) (v : Option Value) (h : Heap) (L : List Loc) : Prop := v = some (.int (F1 p0 p1 p2 p3)) ∧ Fr n0 L ∧ h = h0
set_option maxRecDepth 65536 in
set_option maxHeartbeats 40000000 in
theorem rm1 (l : Launch) (Z : State) (a0 : Array Value) (hw : ∀ d ∈ tables_1, d.before a0 Z = true) (ws : List Jvm.Cond) (p0 : Int32) (p1 : Int32) (p2 : Int32) (p3 : Int32) (h0 : Heap) (n0 : Nat) (Z0 : n0 ≤ h0.size) :
    MetFree l (⟨"com/example/pareto_workflow_scheduler/paretoworkflowscheduler/algorithm/SortsByKeyPinLaw", "before", "(IIII)I"⟩ : MethodName) (head1 (Jvm.Cond.code (⟨"com/example/pareto_workflow_scheduler/paretoworkflowscheduler/algorithm/SortsByKeyPinLaw", "before", "(IIII)I"⟩ : MethodName) method_2_code 4 (some .int) :: ws) ({ frames := 0, cells := 0, slots := 0, locals := 0 } : Room)) (fun a U => a = #[(.int p0), (.int p1), (.int p2), (.int p3)] ∧ Z.Warmed39 U.vm ∧ U.heap = h0) (fun _ _ _ _ _ => True) (fun _ U o U' => ∃ v L, o = .returned v ∧ Q_rm1 Z p0 p1 p2 p3 h0 n0 v U'.heap L ∧ FrameEnd U o U' L ({ frames := 0, cells := 0, slots := 0, locals := 0 } : Room).cells ({ frames := 0, cells := 0, slots := 0, locals := 0 } : Room).slots) := by
  refine MetFree.of_bodySF (plainFor_of_name pn_rm1) hisR ?_
  intro p e s m args below meth c s₁ Bd hml0 hP hK
  obtain ⟨rfl, hZ, hh⟩ := hP
  have hx := Bd.exec
  have hby := Bd.bytes
  have hml : c.maxLocals = 4 := hml0
  have hown : s.vm.findClass "com/example/pareto_workflow_scheduler/paretoworkflowscheduler/algorithm/SortsByKeyPinLaw" = some m.cls := findClass_of_methodNamed Bd.named
  have hnm := (name_of_methodNamed Bd.named Bd.method).1
  have X0 : Stand p l e ({ frames := 0, cells := 0, slots := 0, locals := 0 } : Room) s m #[(.int p0), (.int p1), (.int p2), (.int p3)] below meth c s₁ [] 0 0 := Stand.of_body Bd
  have e0 : s₁.heap = h0 := by rw [← hh, Bd.state]; rfl
  have N0 := Fr.nil n0
  have q0 : Steps p.tables e below (s₁.setTop (entryFrame m #[(.int p0), (.int p1), (.int p2), (.int p3)] 4)) (s₁.setTop (mkF m 0 #[.val (.int p0), .val (.int p1), .val (.int p2), .val (.int p3)] [])) := castTop (ef_rm1 m p0 p1 p2 p3) (Steps.refl _)
  obtain ⟨fs, hr, hrun, hended, hW, hsame⟩ := X0.leave (v := some (.int (F1 p0 p1 p2 p3))) (fun h => by rw [Bd.returns] at h; cases h)
  refine ⟨_, _, q0.trans ?_, hrun, hended, _, _, rfl, ?_, ⟨_, rfl⟩, hW, hsame.mono (by decide) (by decide)⟩
  · show Steps p.tables e below (s₁.setTop (mkF m 0 #[.val (.int p0), .val (.int p1), .val (.int p2), .val (.int p3)] [])) _
    refine XS.iloadN X0.here hx rfl (hb hby d2_0) rfl ?_
    show Steps p.tables e below (s₁.setTop (mkF m 1 #[.val (.int p0), .val (.int p1), .val (.int p2), .val (.int p3)] [(.int p0)])) _
    refine XS.iloadN X0.here hx rfl (hb hby d2_1) rfl ?_
    show Steps p.tables e below (s₁.setTop (mkF m 2 #[.val (.int p0), .val (.int p1), .val (.int p2), .val (.int p3)] [(.int p2), (.int p0)])) _
    by_cases hc1 : p0 < p2
    · refine XS.icmpNo X0.here hx rfl (hb hby d2_2) rfl (tlt hc1).2.1 ?_
      show Steps p.tables e below (s₁.setTop (mkF m 5 #[.val (.int p0), .val (.int p1), .val (.int p2), .val (.int p3)] [])) _
      refine XS.iconst X0.here hx rfl (hb hby d2_5) ?_
      show Steps p.tables e below (s₁.setTop (mkF m 6 #[.val (.int p0), .val (.int p1), .val (.int p2), .val (.int p3)] [(.int (1 : Int32))])) _
      have hz : (F1 p0 p1 p2 p3) = (1 : Int32) := by unfold F1; rw [if_pos hc1]
      rw [hz] at hr
      exact retI X0 hx Bd.returns (hb hby d2_6) hr
    · refine XS.icmpYes X0.here hx rfl (pc0 := 2) (pc' := 7) rfl (hb hby d2_2) rfl (flt hc1).2.1 (by decide) (by decide) ?_
      show Steps p.tables e below (s₁.setTop (mkF m 7 #[.val (.int p0), .val (.int p1), .val (.int p2), .val (.int p3)] [])) _
      refine XS.iloadN X0.here hx rfl (hb hby d2_7) rfl ?_
      show Steps p.tables e below (s₁.setTop (mkF m 8 #[.val (.int p0), .val (.int p1), .val (.int p2), .val (.int p3)] [(.int p0)])) _
      refine XS.iloadN X0.here hx rfl (hb hby d2_8) rfl ?_
      show Steps p.tables e below (s₁.setTop (mkF m 9 #[.val (.int p0), .val (.int p1), .val (.int p2), .val (.int p3)] [(.int p2), (.int p0)])) _
      by_cases hc2 : p0 = p2
      · refine XS.icmpNo X0.here hx rfl (hb hby d2_9) rfl (teq hc2).2 ?_
        show Steps p.tables e below (s₁.setTop (mkF m 12 #[.val (.int p0), .val (.int p1), .val (.int p2), .val (.int p3)] [])) _
        refine XS.iloadN X0.here hx rfl (hb hby d2_12) rfl ?_
        show Steps p.tables e below (s₁.setTop (mkF m 13 #[.val (.int p0), .val (.int p1), .val (.int p2), .val (.int p3)] [(.int p1)])) _
        refine XS.iloadN X0.here hx rfl (hb hby d2_13) rfl ?_
        show Steps p.tables e below (s₁.setTop (mkF m 14 #[.val (.int p0), .val (.int p1), .val (.int p2), .val (.int p3)] [(.int p3), (.int p1)])) _
        by_cases hc3 : p1 < p3
        · refine XS.icmpNo X0.here hx rfl (hb hby d2_14) rfl (tlt hc3).2.1 ?_
          show Steps p.tables e below (s₁.setTop (mkF m 17 #[.val (.int p0), .val (.int p1), .val (.int p2), .val (.int p3)] [])) _
          refine XS.iconst X0.here hx rfl (hb hby d2_17) ?_
          show Steps p.tables e below (s₁.setTop (mkF m 18 #[.val (.int p0), .val (.int p1), .val (.int p2), .val (.int p3)] [(.int (1 : Int32))])) _
          have hz : (F1 p0 p1 p2 p3) = (1 : Int32) := by unfold F1; rw [if_neg hc1, if_pos hc2, if_pos hc3]
          rw [hz] at hr
          exact retI X0 hx Bd.returns (hb hby d2_18) hr
        · refine XS.icmpYes X0.here hx rfl (pc0 := 14) (pc' := 19) rfl (hb hby d2_14) rfl (flt hc3).2.1 (by decide) (by decide) ?_
          show Steps p.tables e below (s₁.setTop (mkF m 19 #[.val (.int p0), .val (.int p1), .val (.int p2), .val (.int p3)] [])) _
          refine XS.iconst X0.here hx rfl (hb hby d2_19) ?_
          show Steps p.tables e below (s₁.setTop (mkF m 20 #[.val (.int p0), .val (.int p1), .val (.int p2), .val (.int p3)] [(.int (0 : Int32))])) _
          have hz : (F1 p0 p1 p2 p3) = (0 : Int32) := by unfold F1; rw [if_neg hc1, if_pos hc2, if_neg hc3]
          rw [hz] at hr
          exact retI X0 hx Bd.returns (hb hby d2_20) hr
      · refine XS.icmpYes X0.here hx rfl (pc0 := 9) (pc' := 19) rfl (hb hby d2_9) rfl (feq hc2).2 (by decide) (by decide) ?_
        show Steps p.tables e below (s₁.setTop (mkF m 19 #[.val (.int p0), .val (.int p1), .val (.int p2), .val (.int p3)] [])) _
        refine XS.iconst X0.here hx rfl (hb hby d2_19) ?_
        show Steps p.tables e below (s₁.setTop (mkF m 20 #[.val (.int p0), .val (.int p1), .val (.int p2), .val (.int p3)] [(.int (0 : Int32))])) _
        have hz : (F1 p0 p1 p2 p3) = (0 : Int32) := by unfold F1; rw [if_neg hc1, if_neg hc2]
        rw [hz] at hr
        exact retI X0 hx Bd.returns (hb hby d2_20) hr
  · show Q_rm1 Z p0 p1 p2 p3 h0 n0 _ s₁.heap _
    rw [e0]
    exact ⟨rfl, N0, rfl⟩

theorem d1_0 : decode method_3_code 0 = .ok (.iload_n 0, 1) := by decide +kernel
theorem d1_1 : decode method_3_code 1 = .ok (.iconst 0, 1) := by decide +kernel
theorem d1_2 : decode method_3_code 2 = .ok (.iload 5, 2) := by decide +kernel
theorem d1_4 : decode method_3_code 4 = .ok (.iload 4, 2) := by decide +kernel
theorem d1_6 : decode method_3_code 6 = .ok (.invokestatic 7, 3) := by decide +kernel
theorem d1_9 : decode method_3_code 9 = .ok (.iload_n 1, 1) := by decide +kernel
theorem d1_10 : decode method_3_code 10 = .ok (.iconst 1, 1) := by decide +kernel
theorem d1_11 : decode method_3_code 11 = .ok (.iload 5, 2) := by decide +kernel
theorem d1_13 : decode method_3_code 13 = .ok (.iload 4, 2) := by decide +kernel
theorem d1_15 : decode method_3_code 15 = .ok (.invokestatic 7, 3) := by decide +kernel
theorem d1_18 : decode method_3_code 18 = .ok (.iadd, 1) := by decide +kernel
theorem d1_19 : decode method_3_code 19 = .ok (.iload_n 2, 1) := by decide +kernel
theorem d1_20 : decode method_3_code 20 = .ok (.iconst 2, 1) := by decide +kernel
theorem d1_21 : decode method_3_code 21 = .ok (.iload 5, 2) := by decide +kernel
theorem d1_23 : decode method_3_code 23 = .ok (.iload 4, 2) := by decide +kernel
theorem d1_25 : decode method_3_code 25 = .ok (.invokestatic 7, 3) := by decide +kernel
theorem d1_28 : decode method_3_code 28 = .ok (.iadd, 1) := by decide +kernel
theorem d1_29 : decode method_3_code 29 = .ok (.iload_n 3, 1) := by decide +kernel
theorem d1_30 : decode method_3_code 30 = .ok (.iconst 3, 1) := by decide +kernel
theorem d1_31 : decode method_3_code 31 = .ok (.iload 5, 2) := by decide +kernel
theorem d1_33 : decode method_3_code 33 = .ok (.iload 4, 2) := by decide +kernel
theorem d1_35 : decode method_3_code 35 = .ok (.invokestatic 7, 3) := by decide +kernel
theorem d1_38 : decode method_3_code 38 = .ok (.iadd, 1) := by decide +kernel
theorem d1_39 : decode method_3_code 39 = .ok (.ireturn, 1) := by decide +kernel
theorem pd_0 : parseMethodDescriptor "(IIII)I" = some ⟨[.int, .int, .int, .int], some .int⟩ := by decide +kernel
theorem pn_rm2 : plainName "com/example/pareto_workflow_scheduler/paretoworkflowscheduler/algorithm/SortsByKeyPinLaw" = true := by first | (simp [plainName, overriddenIn]; done) | decide +kernel
theorem ef_rm2 (m : MethodId) (p0 : Int32) (p1 : Int32) (p2 : Int32) (p3 : Int32) (p4 : Int32) (p5 : Int32) : entryFrame m #[(.int p0), (.int p1), (.int p2), (.int p3), (.int p4), (.int p5)] 6 = mkF m 0 #[.val (.int p0), .val (.int p1), .val (.int p2), .val (.int p3), .val (.int p4), .val (.int p5)] [] := by first | (simp [entryFrame, mkF, argsToLocals, Value.category]; done) | rfl
def F2 (p0 : Int32) (p1 : Int32) (p2 : Int32) (p3 : Int32) (p4 : Int32) (p5 : Int32) : Int32 := ((((F1 p0 (0 : Int32) p5 p4) + (F1 p1 (1 : Int32) p5 p4)) + (F1 p2 (2 : Int32) p5 p4)) + (F1 p3 (3 : Int32) p5 p4))
def Q_rm2 (Z : State) (p0 : Int32) (p1 : Int32) (p2 : Int32) (p3 : Int32) (p4 : Int32) (p5 : Int32) (h0 : Heap) (n0 : Nat) (v : Option Value) (h : Heap) (L : List Loc) : Prop := v = some (.int (F2 p0 p1 p2 p3 p4 p5)) ∧ Fr n0 L ∧ h = h0
set_option maxRecDepth 65536 in
set_option maxHeartbeats 40000000 in
theorem rm2 (l : Launch) (Z : State) (a0 : Array Value) (hw : ∀ d ∈ tables_1, d.before a0 Z = true) (ws : List Jvm.Cond) (p0 : Int32) (p1 : Int32) (p2 : Int32) (p3 : Int32) (p4 : Int32) (p5 : Int32) (h0 : Heap) (n0 : Nat) (Z0 : n0 ≤ h0.size) :
    MetFree l (⟨"com/example/pareto_workflow_scheduler/paretoworkflowscheduler/algorithm/SortsByKeyPinLaw", "pos", "(IIIIII)I"⟩ : MethodName) (head1 (Jvm.Cond.code (⟨"com/example/pareto_workflow_scheduler/paretoworkflowscheduler/algorithm/SortsByKeyPinLaw", "pos", "(IIIIII)I"⟩ : MethodName) method_3_code 6 (some .int) :: ws) ({ frames := 1, cells := 0, slots := 0, locals := 20 } : Room)) (fun a U => a = #[(.int p0), (.int p1), (.int p2), (.int p3), (.int p4), (.int p5)] ∧ Z.Warmed39 U.vm ∧ U.heap = h0) (fun _ _ _ _ _ => True) (fun _ U o U' => ∃ v L, o = .returned v ∧ Q_rm2 Z p0 p1 p2 p3 p4 p5 h0 n0 v U'.heap L ∧ FrameEnd U o U' L ({ frames := 1, cells := 0, slots := 0, locals := 20 } : Room).cells ({ frames := 1, cells := 0, slots := 0, locals := 20 } : Room).slots) := by
  refine MetFree.of_bodySF (plainFor_of_name pn_rm2) hisR ?_
  intro p e s m args below meth c s₁ Bd hml0 hP hK
  obtain ⟨rfl, hZ, hh⟩ := hP
  have hx := Bd.exec
  have hby := Bd.bytes
  have hml : c.maxLocals = 6 := hml0
  have hown : s.vm.findClass "com/example/pareto_workflow_scheduler/paretoworkflowscheduler/algorithm/SortsByKeyPinLaw" = some m.cls := findClass_of_methodNamed Bd.named
  have hnm := (name_of_methodNamed Bd.named Bd.method).1
  have X0 : Stand p l e ({ frames := 1, cells := 0, slots := 0, locals := 20 } : Room) s m #[(.int p0), (.int p1), (.int p2), (.int p3), (.int p4), (.int p5)] below meth c s₁ [] 0 0 := Stand.of_body Bd
  have e0 : s₁.heap = h0 := by rw [← hh, Bd.state]; rfl
  have N0 := Fr.nil n0
  have q0 : Steps p.tables e below (s₁.setTop (entryFrame m #[(.int p0), (.int p1), (.int p2), (.int p3), (.int p4), (.int p5)] 6)) (s₁.setTop (mkF m 0 #[.val (.int p0), .val (.int p1), .val (.int p2), .val (.int p3), .val (.int p4), .val (.int p5)] [])) := castTop (ef_rm2 m p0 p1 p2 p3 p4 p5) (Steps.refl _)
  have q1 : Steps p.tables e below (s₁.setTop (entryFrame m #[(.int p0), (.int p1), (.int p2), (.int p3), (.int p4), (.int p5)] 6)) (s₁.setTop (mkF m 6 #[.val (.int p0), .val (.int p1), .val (.int p2), .val (.int p3), .val (.int p4), .val (.int p5)] [(.int p4), (.int p5), (.int (0 : Int32)), (.int p0)])) := q0.trans (by
      show Steps p.tables e below (s₁.setTop (mkF m 0 #[.val (.int p0), .val (.int p1), .val (.int p2), .val (.int p3), .val (.int p4), .val (.int p5)] [])) _
      refine XS.iloadN X0.here hx rfl (hb hby d1_0) rfl ?_
      show Steps p.tables e below (s₁.setTop (mkF m 1 #[.val (.int p0), .val (.int p1), .val (.int p2), .val (.int p3), .val (.int p4), .val (.int p5)] [(.int p0)])) _
      refine XS.iconst X0.here hx rfl (hb hby d1_1) ?_
      show Steps p.tables e below (s₁.setTop (mkF m 2 #[.val (.int p0), .val (.int p1), .val (.int p2), .val (.int p3), .val (.int p4), .val (.int p5)] [(.int (0 : Int32)), (.int p0)])) _
      refine XS.iload X0.here hx rfl (hb hby d1_2) rfl ?_
      show Steps p.tables e below (s₁.setTop (mkF m 4 #[.val (.int p0), .val (.int p1), .val (.int p2), .val (.int p3), .val (.int p4), .val (.int p5)] [(.int p5), (.int (0 : Int32)), (.int p0)])) _
      refine XS.iload X0.here hx rfl (hb hby d1_4) rfl ?_
      show Steps p.tables e below (s₁.setTop (mkF m 6 #[.val (.int p0), .val (.int p1), .val (.int p2), .val (.int p3), .val (.int p4), .val (.int p5)] [(.int p4), (.int p5), (.int (0 : Int32)), (.int p0)])) _
      exact Steps.refl _)
  obtain ⟨_, _, ⟨T2, L2, k2, n2⟩, -, X2, ⟨Lc2, hQ2, l2, y2, z2⟩, st2⟩ := Jvm.LawKit.callS X0 hx (y := (⟨"com/example/pareto_workflow_scheduler/paretoworkflowscheduler/algorithm/SortsByKeyPinLaw", "before", "(IIII)I"⟩ : MethodName)) hown (mvT hZ (hw _ (List.mem_of_getElem? (i := 5) rfl))) (mvT hZ (hw _ (List.mem_of_getElem? (i := 6) rfl))) (mvT hZ (hw _ (List.mem_of_getElem? (i := 3) rfl))) (mvT hZ (hw _ (List.mem_of_getElem? (i := 7) rfl))) (by decide) (backOf (W := 0) (rm1 l Z a0 hw [] p0 (0 : Int32) p5 p4 h0 n0 Z0) hZ (hw _ (List.mem_of_getElem? (i := 7) rfl)) (hw _ (List.mem_of_getElem? (i := 3) rfl)) (by decide) (by decide)) (g := (mkF m 6 #[.val (.int p0), .val (.int p1), .val (.int p2), .val (.int p3), .val (.int p4), .val (.int p5)] [(.int p4), (.int p5), (.int (0 : Int32)), (.int p0)])) rfl (by rw [hml]; rfl) (argsL := [(.int p0), (.int (0 : Int32)), (.int p5), (.int p4)]) (rest := []) (lenOf pd_0 rfl) rfl (by show 2 * 0 + _ ≤ _; exact Nat.le_of_eq rfl) (hb hby d1_6) (fun _ _ => ⟨rfl, e0, (by decide : 0 + 0 ≤ _), (by decide : 0 + 0 ≤ _)⟩)
  dsimp only [Pt.U, Pt.locs, Pt.cells, Pt.slots] at X2 l2 y2 z2 st2 hQ2
  subst l2 y2 z2
  obtain ⟨rfl, N2q, e2⟩ := hQ2
  have N2 := Fr.app N0 N2q
  have q3 : Steps p.tables e below (s₁.setTop (entryFrame m #[(.int p0), (.int p1), (.int p2), (.int p3), (.int p4), (.int p5)] 6)) (T2.setTop (mkF m 9 #[.val (.int p0), .val (.int p1), .val (.int p2), .val (.int p3), .val (.int p4), .val (.int p5)] [(.int (F1 p0 (0 : Int32) p5 p4))])) := q1.trans (st2 _ (Steps.refl _))
  have q4 : Steps p.tables e below (s₁.setTop (entryFrame m #[(.int p0), (.int p1), (.int p2), (.int p3), (.int p4), (.int p5)] 6)) (T2.setTop (mkF m 15 #[.val (.int p0), .val (.int p1), .val (.int p2), .val (.int p3), .val (.int p4), .val (.int p5)] [(.int p4), (.int p5), (.int (1 : Int32)), (.int p1), (.int (F1 p0 (0 : Int32) p5 p4))])) := q3.trans (by
      show Steps p.tables e below (T2.setTop (mkF m 9 #[.val (.int p0), .val (.int p1), .val (.int p2), .val (.int p3), .val (.int p4), .val (.int p5)] [(.int (F1 p0 (0 : Int32) p5 p4))])) _
      refine XS.iloadN X2.here hx rfl (hb hby d1_9) rfl ?_
      show Steps p.tables e below (T2.setTop (mkF m 10 #[.val (.int p0), .val (.int p1), .val (.int p2), .val (.int p3), .val (.int p4), .val (.int p5)] [(.int p1), (.int (F1 p0 (0 : Int32) p5 p4))])) _
      refine XS.iconst X2.here hx rfl (hb hby d1_10) ?_
      show Steps p.tables e below (T2.setTop (mkF m 11 #[.val (.int p0), .val (.int p1), .val (.int p2), .val (.int p3), .val (.int p4), .val (.int p5)] [(.int (1 : Int32)), (.int p1), (.int (F1 p0 (0 : Int32) p5 p4))])) _
      refine XS.iload X2.here hx rfl (hb hby d1_11) rfl ?_
      show Steps p.tables e below (T2.setTop (mkF m 13 #[.val (.int p0), .val (.int p1), .val (.int p2), .val (.int p3), .val (.int p4), .val (.int p5)] [(.int p5), (.int (1 : Int32)), (.int p1), (.int (F1 p0 (0 : Int32) p5 p4))])) _
      refine XS.iload X2.here hx rfl (hb hby d1_13) rfl ?_
      show Steps p.tables e below (T2.setTop (mkF m 15 #[.val (.int p0), .val (.int p1), .val (.int p2), .val (.int p3), .val (.int p4), .val (.int p5)] [(.int p4), (.int p5), (.int (1 : Int32)), (.int p1), (.int (F1 p0 (0 : Int32) p5 p4))])) _
      exact Steps.refl _)
  obtain ⟨_, _, ⟨T5, L5, k5, n5⟩, -, X5, ⟨Lc5, hQ5, l5, y5, z5⟩, st5⟩ := Jvm.LawKit.callS X2 hx (y := (⟨"com/example/pareto_workflow_scheduler/paretoworkflowscheduler/algorithm/SortsByKeyPinLaw", "before", "(IIII)I"⟩ : MethodName)) hown (mvT hZ (hw _ (List.mem_of_getElem? (i := 5) rfl))) (mvT hZ (hw _ (List.mem_of_getElem? (i := 6) rfl))) (mvT hZ (hw _ (List.mem_of_getElem? (i := 3) rfl))) (mvT hZ (hw _ (List.mem_of_getElem? (i := 7) rfl))) (by decide) (backOf (W := 1) (rm1 l Z a0 hw [] p1 (1 : Int32) p5 p4 h0 n0 Z0) hZ (hw _ (List.mem_of_getElem? (i := 7) rfl)) (hw _ (List.mem_of_getElem? (i := 3) rfl)) (by decide) (by decide)) (g := (mkF m 15 #[.val (.int p0), .val (.int p1), .val (.int p2), .val (.int p3), .val (.int p4), .val (.int p5)] [(.int p4), (.int p5), (.int (1 : Int32)), (.int p1), (.int (F1 p0 (0 : Int32) p5 p4))])) rfl (by rw [hml]; rfl) (argsL := [(.int p1), (.int (1 : Int32)), (.int p5), (.int p4)]) (rest := [(.int (F1 p0 (0 : Int32) p5 p4))]) (lenOf pd_0 rfl) rfl (by show 2 * 0 + _ ≤ _; exact Nat.le_of_eq rfl) (hb hby d1_15) (fun _ _ => ⟨rfl, e2, (by decide : 0 + 0 ≤ _), (by decide : 0 + 0 ≤ _)⟩)
  dsimp only [Pt.U, Pt.locs, Pt.cells, Pt.slots] at X5 l5 y5 z5 st5 hQ5
  subst l5 y5 z5
  obtain ⟨rfl, N5q, e5⟩ := hQ5
  have N5 := Fr.app N2 N5q
  have q6 : Steps p.tables e below (s₁.setTop (entryFrame m #[(.int p0), (.int p1), (.int p2), (.int p3), (.int p4), (.int p5)] 6)) (T5.setTop (mkF m 18 #[.val (.int p0), .val (.int p1), .val (.int p2), .val (.int p3), .val (.int p4), .val (.int p5)] [(.int (F1 p1 (1 : Int32) p5 p4)), (.int (F1 p0 (0 : Int32) p5 p4))])) := q4.trans (st5 _ (Steps.refl _))
  have q7 : Steps p.tables e below (s₁.setTop (entryFrame m #[(.int p0), (.int p1), (.int p2), (.int p3), (.int p4), (.int p5)] 6)) (T5.setTop (mkF m 25 #[.val (.int p0), .val (.int p1), .val (.int p2), .val (.int p3), .val (.int p4), .val (.int p5)] [(.int p4), (.int p5), (.int (2 : Int32)), (.int p2), (.int ((F1 p0 (0 : Int32) p5 p4) + (F1 p1 (1 : Int32) p5 p4)))])) := q6.trans (by
      show Steps p.tables e below (T5.setTop (mkF m 18 #[.val (.int p0), .val (.int p1), .val (.int p2), .val (.int p3), .val (.int p4), .val (.int p5)] [(.int (F1 p1 (1 : Int32) p5 p4)), (.int (F1 p0 (0 : Int32) p5 p4))])) _
      refine XS.iadd X5.here hx rfl (hb hby d1_18) rfl ?_
      show Steps p.tables e below (T5.setTop (mkF m 19 #[.val (.int p0), .val (.int p1), .val (.int p2), .val (.int p3), .val (.int p4), .val (.int p5)] [(.int ((F1 p0 (0 : Int32) p5 p4) + (F1 p1 (1 : Int32) p5 p4)))])) _
      refine XS.iloadN X5.here hx rfl (hb hby d1_19) rfl ?_
      show Steps p.tables e below (T5.setTop (mkF m 20 #[.val (.int p0), .val (.int p1), .val (.int p2), .val (.int p3), .val (.int p4), .val (.int p5)] [(.int p2), (.int ((F1 p0 (0 : Int32) p5 p4) + (F1 p1 (1 : Int32) p5 p4)))])) _
      refine XS.iconst X5.here hx rfl (hb hby d1_20) ?_
      show Steps p.tables e below (T5.setTop (mkF m 21 #[.val (.int p0), .val (.int p1), .val (.int p2), .val (.int p3), .val (.int p4), .val (.int p5)] [(.int (2 : Int32)), (.int p2), (.int ((F1 p0 (0 : Int32) p5 p4) + (F1 p1 (1 : Int32) p5 p4)))])) _
      refine XS.iload X5.here hx rfl (hb hby d1_21) rfl ?_
      show Steps p.tables e below (T5.setTop (mkF m 23 #[.val (.int p0), .val (.int p1), .val (.int p2), .val (.int p3), .val (.int p4), .val (.int p5)] [(.int p5), (.int (2 : Int32)), (.int p2), (.int ((F1 p0 (0 : Int32) p5 p4) + (F1 p1 (1 : Int32) p5 p4)))])) _
      refine XS.iload X5.here hx rfl (hb hby d1_23) rfl ?_
      show Steps p.tables e below (T5.setTop (mkF m 25 #[.val (.int p0), .val (.int p1), .val (.int p2), .val (.int p3), .val (.int p4), .val (.int p5)] [(.int p4), (.int p5), (.int (2 : Int32)), (.int p2), (.int ((F1 p0 (0 : Int32) p5 p4) + (F1 p1 (1 : Int32) p5 p4)))])) _
      exact Steps.refl _)
  obtain ⟨_, _, ⟨T8, L8, k8, n8⟩, -, X8, ⟨Lc8, hQ8, l8, y8, z8⟩, st8⟩ := Jvm.LawKit.callS X5 hx (y := (⟨"com/example/pareto_workflow_scheduler/paretoworkflowscheduler/algorithm/SortsByKeyPinLaw", "before", "(IIII)I"⟩ : MethodName)) hown (mvT hZ (hw _ (List.mem_of_getElem? (i := 5) rfl))) (mvT hZ (hw _ (List.mem_of_getElem? (i := 6) rfl))) (mvT hZ (hw _ (List.mem_of_getElem? (i := 3) rfl))) (mvT hZ (hw _ (List.mem_of_getElem? (i := 7) rfl))) (by decide) (backOf (W := 1) (rm1 l Z a0 hw [] p2 (2 : Int32) p5 p4 h0 n0 Z0) hZ (hw _ (List.mem_of_getElem? (i := 7) rfl)) (hw _ (List.mem_of_getElem? (i := 3) rfl)) (by decide) (by decide)) (g := (mkF m 25 #[.val (.int p0), .val (.int p1), .val (.int p2), .val (.int p3), .val (.int p4), .val (.int p5)] [(.int p4), (.int p5), (.int (2 : Int32)), (.int p2), (.int ((F1 p0 (0 : Int32) p5 p4) + (F1 p1 (1 : Int32) p5 p4)))])) rfl (by rw [hml]; rfl) (argsL := [(.int p2), (.int (2 : Int32)), (.int p5), (.int p4)]) (rest := [(.int ((F1 p0 (0 : Int32) p5 p4) + (F1 p1 (1 : Int32) p5 p4)))]) (lenOf pd_0 rfl) rfl (by show 2 * 0 + _ ≤ _; exact Nat.le_of_eq rfl) (hb hby d1_25) (fun _ _ => ⟨rfl, e5, (by decide : 0 + 0 ≤ _), (by decide : 0 + 0 ≤ _)⟩)
  dsimp only [Pt.U, Pt.locs, Pt.cells, Pt.slots] at X8 l8 y8 z8 st8 hQ8
  subst l8 y8 z8
  obtain ⟨rfl, N8q, e8⟩ := hQ8
  have N8 := Fr.app N5 N8q
  have q9 : Steps p.tables e below (s₁.setTop (entryFrame m #[(.int p0), (.int p1), (.int p2), (.int p3), (.int p4), (.int p5)] 6)) (T8.setTop (mkF m 28 #[.val (.int p0), .val (.int p1), .val (.int p2), .val (.int p3), .val (.int p4), .val (.int p5)] [(.int (F1 p2 (2 : Int32) p5 p4)), (.int ((F1 p0 (0 : Int32) p5 p4) + (F1 p1 (1 : Int32) p5 p4)))])) := q7.trans (st8 _ (Steps.refl _))
  have q10 : Steps p.tables e below (s₁.setTop (entryFrame m #[(.int p0), (.int p1), (.int p2), (.int p3), (.int p4), (.int p5)] 6)) (T8.setTop (mkF m 35 #[.val (.int p0), .val (.int p1), .val (.int p2), .val (.int p3), .val (.int p4), .val (.int p5)] [(.int p4), (.int p5), (.int (3 : Int32)), (.int p3), (.int (((F1 p0 (0 : Int32) p5 p4) + (F1 p1 (1 : Int32) p5 p4)) + (F1 p2 (2 : Int32) p5 p4)))])) := q9.trans (by
      show Steps p.tables e below (T8.setTop (mkF m 28 #[.val (.int p0), .val (.int p1), .val (.int p2), .val (.int p3), .val (.int p4), .val (.int p5)] [(.int (F1 p2 (2 : Int32) p5 p4)), (.int ((F1 p0 (0 : Int32) p5 p4) + (F1 p1 (1 : Int32) p5 p4)))])) _
      refine XS.iadd X8.here hx rfl (hb hby d1_28) rfl ?_
      show Steps p.tables e below (T8.setTop (mkF m 29 #[.val (.int p0), .val (.int p1), .val (.int p2), .val (.int p3), .val (.int p4), .val (.int p5)] [(.int (((F1 p0 (0 : Int32) p5 p4) + (F1 p1 (1 : Int32) p5 p4)) + (F1 p2 (2 : Int32) p5 p4)))])) _
      refine XS.iloadN X8.here hx rfl (hb hby d1_29) rfl ?_
      show Steps p.tables e below (T8.setTop (mkF m 30 #[.val (.int p0), .val (.int p1), .val (.int p2), .val (.int p3), .val (.int p4), .val (.int p5)] [(.int p3), (.int (((F1 p0 (0 : Int32) p5 p4) + (F1 p1 (1 : Int32) p5 p4)) + (F1 p2 (2 : Int32) p5 p4)))])) _
      refine XS.iconst X8.here hx rfl (hb hby d1_30) ?_
      show Steps p.tables e below (T8.setTop (mkF m 31 #[.val (.int p0), .val (.int p1), .val (.int p2), .val (.int p3), .val (.int p4), .val (.int p5)] [(.int (3 : Int32)), (.int p3), (.int (((F1 p0 (0 : Int32) p5 p4) + (F1 p1 (1 : Int32) p5 p4)) + (F1 p2 (2 : Int32) p5 p4)))])) _
      refine XS.iload X8.here hx rfl (hb hby d1_31) rfl ?_
      show Steps p.tables e below (T8.setTop (mkF m 33 #[.val (.int p0), .val (.int p1), .val (.int p2), .val (.int p3), .val (.int p4), .val (.int p5)] [(.int p5), (.int (3 : Int32)), (.int p3), (.int (((F1 p0 (0 : Int32) p5 p4) + (F1 p1 (1 : Int32) p5 p4)) + (F1 p2 (2 : Int32) p5 p4)))])) _
      refine XS.iload X8.here hx rfl (hb hby d1_33) rfl ?_
      show Steps p.tables e below (T8.setTop (mkF m 35 #[.val (.int p0), .val (.int p1), .val (.int p2), .val (.int p3), .val (.int p4), .val (.int p5)] [(.int p4), (.int p5), (.int (3 : Int32)), (.int p3), (.int (((F1 p0 (0 : Int32) p5 p4) + (F1 p1 (1 : Int32) p5 p4)) + (F1 p2 (2 : Int32) p5 p4)))])) _
      exact Steps.refl _)
  obtain ⟨_, _, ⟨T11, L11, k11, n11⟩, -, X11, ⟨Lc11, hQ11, l11, y11, z11⟩, st11⟩ := Jvm.LawKit.callS X8 hx (y := (⟨"com/example/pareto_workflow_scheduler/paretoworkflowscheduler/algorithm/SortsByKeyPinLaw", "before", "(IIII)I"⟩ : MethodName)) hown (mvT hZ (hw _ (List.mem_of_getElem? (i := 5) rfl))) (mvT hZ (hw _ (List.mem_of_getElem? (i := 6) rfl))) (mvT hZ (hw _ (List.mem_of_getElem? (i := 3) rfl))) (mvT hZ (hw _ (List.mem_of_getElem? (i := 7) rfl))) (by decide) (backOf (W := 1) (rm1 l Z a0 hw [] p3 (3 : Int32) p5 p4 h0 n0 Z0) hZ (hw _ (List.mem_of_getElem? (i := 7) rfl)) (hw _ (List.mem_of_getElem? (i := 3) rfl)) (by decide) (by decide)) (g := (mkF m 35 #[.val (.int p0), .val (.int p1), .val (.int p2), .val (.int p3), .val (.int p4), .val (.int p5)] [(.int p4), (.int p5), (.int (3 : Int32)), (.int p3), (.int (((F1 p0 (0 : Int32) p5 p4) + (F1 p1 (1 : Int32) p5 p4)) + (F1 p2 (2 : Int32) p5 p4)))])) rfl (by rw [hml]; rfl) (argsL := [(.int p3), (.int (3 : Int32)), (.int p5), (.int p4)]) (rest := [(.int (((F1 p0 (0 : Int32) p5 p4) + (F1 p1 (1 : Int32) p5 p4)) + (F1 p2 (2 : Int32) p5 p4)))]) (lenOf pd_0 rfl) rfl (by show 2 * 0 + _ ≤ _; exact Nat.le_of_eq rfl) (hb hby d1_35) (fun _ _ => ⟨rfl, e8, (by decide : 0 + 0 ≤ _), (by decide : 0 + 0 ≤ _)⟩)
  dsimp only [Pt.U, Pt.locs, Pt.cells, Pt.slots] at X11 l11 y11 z11 st11 hQ11
  subst l11 y11 z11
  obtain ⟨rfl, N11q, e11⟩ := hQ11
  have N11 := Fr.app N8 N11q
  have q12 : Steps p.tables e below (s₁.setTop (entryFrame m #[(.int p0), (.int p1), (.int p2), (.int p3), (.int p4), (.int p5)] 6)) (T11.setTop (mkF m 38 #[.val (.int p0), .val (.int p1), .val (.int p2), .val (.int p3), .val (.int p4), .val (.int p5)] [(.int (F1 p3 (3 : Int32) p5 p4)), (.int (((F1 p0 (0 : Int32) p5 p4) + (F1 p1 (1 : Int32) p5 p4)) + (F1 p2 (2 : Int32) p5 p4)))])) := q10.trans (st11 _ (Steps.refl _))
  have q13 : Steps p.tables e below (s₁.setTop (entryFrame m #[(.int p0), (.int p1), (.int p2), (.int p3), (.int p4), (.int p5)] 6)) (T11.setTop (mkF m 39 #[.val (.int p0), .val (.int p1), .val (.int p2), .val (.int p3), .val (.int p4), .val (.int p5)] [(.int ((((F1 p0 (0 : Int32) p5 p4) + (F1 p1 (1 : Int32) p5 p4)) + (F1 p2 (2 : Int32) p5 p4)) + (F1 p3 (3 : Int32) p5 p4)))])) := q12.trans (by
      show Steps p.tables e below (T11.setTop (mkF m 38 #[.val (.int p0), .val (.int p1), .val (.int p2), .val (.int p3), .val (.int p4), .val (.int p5)] [(.int (F1 p3 (3 : Int32) p5 p4)), (.int (((F1 p0 (0 : Int32) p5 p4) + (F1 p1 (1 : Int32) p5 p4)) + (F1 p2 (2 : Int32) p5 p4)))])) _
      refine XS.iadd X11.here hx rfl (hb hby d1_38) rfl ?_
      show Steps p.tables e below (T11.setTop (mkF m 39 #[.val (.int p0), .val (.int p1), .val (.int p2), .val (.int p3), .val (.int p4), .val (.int p5)] [(.int ((((F1 p0 (0 : Int32) p5 p4) + (F1 p1 (1 : Int32) p5 p4)) + (F1 p2 (2 : Int32) p5 p4)) + (F1 p3 (3 : Int32) p5 p4)))])) _
      exact Steps.refl _)
  obtain ⟨fs, hr, hrun, hended, hW, hsame⟩ := X11.leave (v := some (.int (F2 p0 p1 p2 p3 p4 p5))) (fun h => by rw [Bd.returns] at h; cases h)
  refine ⟨_, _, q13.trans ?_, hrun, hended, _, _, rfl, ?_, ⟨_, rfl⟩, hW, hsame.mono (by decide) (by decide)⟩
  · show Steps p.tables e below (T11.setTop (mkF m 39 #[.val (.int p0), .val (.int p1), .val (.int p2), .val (.int p3), .val (.int p4), .val (.int p5)] [(.int ((((F1 p0 (0 : Int32) p5 p4) + (F1 p1 (1 : Int32) p5 p4)) + (F1 p2 (2 : Int32) p5 p4)) + (F1 p3 (3 : Int32) p5 p4)))])) _
    have hz : (F2 p0 p1 p2 p3 p4 p5) = ((((F1 p0 (0 : Int32) p5 p4) + (F1 p1 (1 : Int32) p5 p4)) + (F1 p2 (2 : Int32) p5 p4)) + (F1 p3 (3 : Int32) p5 p4)) := by unfold F2; rfl
    rw [hz] at hr
    exact retI X11 hx Bd.returns (hb hby d1_39) hr
  · show Q_rm2 Z p0 p1 p2 p3 p4 p5 h0 n0 _ T11.heap _
    rw [e11]
    exact ⟨rfl, N11, rfl⟩

theorem pd_1 : parseMethodDescriptor "(IIIIII)I" = some ⟨[.int, .int, .int, .int, .int, .int], some .int⟩ := by decide +kernel
theorem pd_2 : parseMethodDescriptor "([I[II)[I" = some ⟨[(.array .int), (.array .int), .int], some (.array .int)⟩ := by decide +kernel
theorem pn_rm0 : plainName "com/example/pareto_workflow_scheduler/paretoworkflowscheduler/algorithm/SortsByKeyPinLaw" = true := by first | (simp [plainName, overriddenIn]; done) | decide +kernel
theorem ef_rm0 (m : MethodId) (p0 : Int32) (p1 : Int32) (p2 : Int32) : entryFrame m #[(.int p0), (.int p1), (.int p2)] maxLocals = mkF m 0 #[.val (.int p0), .val (.int p1), .val (.int p2), .unset, .unset, .unset, .unset, .unset, .unset, .unset, .unset, .unset, .unset, .unset, .unset, .unset] [] := by first | (simp [entryFrame, mkF, argsToLocals, Value.category, maxLocals]; done) | rfl
def M_law (p0 : Int32) (p1 : Int32) (p2 : Int32) : Option (Int32) := (some ((1 : Int32) + (p2 &&& (7 : Int32)))).bind fun bd => (Own.mk 4 (4 : Int32)).bind fun y3 => (Own.wt y3 (0 : Int32) ((p1 &&& (7 : Int32)) - ((p1 &&& (7 : Int32)) / bd) * bd)).bind fun y7 => (Own.wt y7 (1 : Int32) ((((p1.toUInt32 >>> ((3 : Int32) &&& 31).toUInt32).toInt32) &&& (7 : Int32)) - ((((p1.toUInt32 >>> ((3 : Int32) &&& 31).toUInt32).toInt32) &&& (7 : Int32)) / bd) * bd)).bind fun y11 => (Own.wt y11 (2 : Int32) ((((p1.toUInt32 >>> ((6 : Int32) &&& 31).toUInt32).toInt32) &&& (7 : Int32)) - ((((p1.toUInt32 >>> ((6 : Int32) &&& 31).toUInt32).toInt32) &&& (7 : Int32)) / bd) * bd)).bind fun y15 => (Own.wt y15 (3 : Int32) ((((p1.toUInt32 >>> ((9 : Int32) &&& 31).toUInt32).toInt32) &&& (7 : Int32)) - ((((p1.toUInt32 >>> ((9 : Int32) &&& 31).toUInt32).toInt32) &&& (7 : Int32)) / bd) * bd)).bind fun y19 => (some (p0 &&& (3 : Int32))).bind fun i0 => (some (((p0.toUInt32 >>> ((2 : Int32) &&& 31).toUInt32).toInt32) &&& (3 : Int32))).bind fun i1 => (some (((p0.toUInt32 >>> ((4 : Int32) &&& 31).toUInt32).toInt32) &&& (3 : Int32))).bind fun i2 => (some (((p0.toUInt32 >>> ((6 : Int32) &&& 31).toUInt32).toInt32) &&& (3 : Int32))).bind fun i3 => (Own.mk 4 (4 : Int32)).bind fun y27 => (Own.wt y27 (0 : Int32) i0).bind fun y31 => (Own.wt y31 (1 : Int32) i1).bind fun y35 => (Own.wt y35 (2 : Int32) i2).bind fun y39 => (Own.wt y39 (3 : Int32) i3).bind fun y43 => (Own.rd y19 i0).bind fun v47 => (Own.rd y19 i1).bind fun v50 => (Own.rd y19 i2).bind fun v53 => (Own.rd y19 i3).bind fun v56 => (Own.mk 4 (4 : Int32)).bind fun y59 => (Own.wt y59 (F2 v47 v50 v53 v56 (0 : Int32) v47) i0).bind fun y66 => (Own.wt y66 (F2 v47 v50 v53 v56 (1 : Int32) v50) i1).bind fun y73 => (Own.wt y73 (F2 v47 v50 v53 v56 (2 : Int32) v53) i2).bind fun y80 => (Own.wt y80 (F2 v47 v50 v53 v56 (3 : Int32) v56) i3).bind fun y87 => (M_byKey bd y43 y19).bind fun r91 => (if (Own.ln r91) = (4 : Int32) then (Own.rd y43 (0 : Int32)).bind fun v101 => (if v101 = i0 then (Own.rd y43 (1 : Int32)).bind fun v107 => (if v107 = i1 then (Own.rd y43 (2 : Int32)).bind fun v113 => (if v113 = i2 then (Own.rd y43 (3 : Int32)).bind fun v119 => (if v119 = i3 then (Own.rd r91 (0 : Int32)).bind fun v125 => (Own.rd y87 (0 : Int32)).bind fun v128 => (if v125 = v128 then (Own.rd r91 (1 : Int32)).bind fun v133 => (Own.rd y87 (1 : Int32)).bind fun v136 => (if v133 = v136 then (Own.rd r91 (2 : Int32)).bind fun v141 => (Own.rd y87 (2 : Int32)).bind fun v144 => (if v141 = v144 then (Own.rd r91 (3 : Int32)).bind fun v149 => (Own.rd y87 (3 : Int32)).bind fun v152 => (if v149 = v152 then some (1 : Int32) else some (0 : Int32)) else some (0 : Int32)) else some (0 : Int32)) else some (0 : Int32)) else some (0 : Int32)) else some (0 : Int32)) else some (0 : Int32)) else some (0 : Int32)) else some (0 : Int32))
def Q_rm0 (Z : State) (p0 : Int32) (p1 : Int32) (p2 : Int32) (out : Int32) (h0 : Heap) (n0 : Nat) (v : Option Value) (h : Heap) (L : List Loc) : Prop := v = some (.int out) ∧ Fr n0 L
set_option maxRecDepth 65536 in
set_option maxHeartbeats 40000000 in
theorem rm0 (l : Launch) (Z : State) (a0 : Array Value) (hw : ∀ d ∈ tables_1, d.before a0 Z = true) (ws : List Jvm.Cond) (p0 : Int32) (p1 : Int32) (p2 : Int32) (out : Int32) (h0 : Heap) (n0 : Nat) (Z0 : n0 ≤ h0.size) (hM : M_law p0 p1 p2 = some out) :
    MetFree l x (head1 (Jvm.Cond.code x code maxLocals ret :: ws) room_1) (fun a U => a = #[(.int p0), (.int p1), (.int p2)] ∧ Z.Warmed39 U.vm ∧ U.heap = h0) (fun _ _ _ _ _ => True) (fun _ U o U' => ∃ v L, o = .returned v ∧ Q_rm0 Z p0 p1 p2 out h0 n0 v U'.heap L ∧ FrameEnd U o U' L room_1.cells room_1.slots) := by
  refine MetFree.of_bodySF (plainFor_of_name pn_rm0) hisR ?_
  intro p e s m args below meth c s₁ Bd hml0 hP hK
  obtain ⟨rfl, hZ, hh⟩ := hP
  have hx := Bd.exec
  have hby := Bd.bytes
  have hml : c.maxLocals = 16 := hml0
  have hown : s.vm.findClass "com/example/pareto_workflow_scheduler/paretoworkflowscheduler/algorithm/SortsByKeyPinLaw" = some m.cls := findClass_of_methodNamed Bd.named
  have hnm := (name_of_methodNamed Bd.named Bd.method).1
  have X0 : Stand p l e room_1 s m #[(.int p0), (.int p1), (.int p2)] below meth c s₁ [] 0 0 := Stand.of_body Bd
  have e0 : s₁.heap = h0 := by rw [← hh, Bd.state]; rfl
  have N0 := Fr.nil n0
  have q0 : Steps p.tables e below (s₁.setTop (entryFrame m #[(.int p0), (.int p1), (.int p2)] maxLocals)) (s₁.setTop (mkF m 0 #[.val (.int p0), .val (.int p1), .val (.int p2), .unset, .unset, .unset, .unset, .unset, .unset, .unset, .unset, .unset, .unset, .unset, .unset, .unset] [])) := castTop (ef_rm0 m p0 p1 p2) (Steps.refl _)
  unfold M_law at hM
  have q1 : Steps p.tables e below (s₁.setTop (entryFrame m #[(.int p0), (.int p1), (.int p2)] maxLocals)) (s₁.setTop (mkF m 7 #[.val (.int p0), .val (.int p1), .val (.int p2), .val (.int ((1 : Int32) + (p2 &&& (7 : Int32)))), .unset, .unset, .unset, .unset, .unset, .unset, .unset, .unset, .unset, .unset, .unset, .unset] [])) := q0.trans (by
      show Steps p.tables e below (s₁.setTop (mkF m 0 #[.val (.int p0), .val (.int p1), .val (.int p2), .unset, .unset, .unset, .unset, .unset, .unset, .unset, .unset, .unset, .unset, .unset, .unset, .unset] [])) _
      refine XS.iconst X0.here hx rfl (hb hby at_0) ?_
      show Steps p.tables e below (s₁.setTop (mkF m 1 #[.val (.int p0), .val (.int p1), .val (.int p2), .unset, .unset, .unset, .unset, .unset, .unset, .unset, .unset, .unset, .unset, .unset, .unset, .unset] [(.int (1 : Int32))])) _
      refine XS.iloadN X0.here hx rfl (hb hby at_1) rfl ?_
      show Steps p.tables e below (s₁.setTop (mkF m 2 #[.val (.int p0), .val (.int p1), .val (.int p2), .unset, .unset, .unset, .unset, .unset, .unset, .unset, .unset, .unset, .unset, .unset, .unset, .unset] [(.int p2), (.int (1 : Int32))])) _
      refine XS.bipush X0.here hx rfl (hb hby at_2) ?_
      show Steps p.tables e below (s₁.setTop (mkF m 4 #[.val (.int p0), .val (.int p1), .val (.int p2), .unset, .unset, .unset, .unset, .unset, .unset, .unset, .unset, .unset, .unset, .unset, .unset, .unset] [(.int (7 : Int32)), (.int p2), (.int (1 : Int32))])) _
      refine XS.iand X0.here hx rfl (hb hby at_4) rfl ?_
      show Steps p.tables e below (s₁.setTop (mkF m 5 #[.val (.int p0), .val (.int p1), .val (.int p2), .unset, .unset, .unset, .unset, .unset, .unset, .unset, .unset, .unset, .unset, .unset, .unset, .unset] [(.int (p2 &&& (7 : Int32))), (.int (1 : Int32))])) _
      refine XS.iadd X0.here hx rfl (hb hby at_5) rfl ?_
      show Steps p.tables e below (s₁.setTop (mkF m 6 #[.val (.int p0), .val (.int p1), .val (.int p2), .unset, .unset, .unset, .unset, .unset, .unset, .unset, .unset, .unset, .unset, .unset, .unset, .unset] [(.int ((1 : Int32) + (p2 &&& (7 : Int32))))])) _
      refine XS.istoreN X0.here hx rfl (hb hby at_6) rfl (l' := #[.val (.int p0), .val (.int p1), .val (.int p2), .val (.int ((1 : Int32) + (p2 &&& (7 : Int32)))), .unset, .unset, .unset, .unset, .unset, .unset, .unset, .unset, .unset, .unset, .unset, .unset]) rfl ?_
      show Steps p.tables e below (s₁.setTop (mkF m 7 #[.val (.int p0), .val (.int p1), .val (.int p2), .val (.int ((1 : Int32) + (p2 &&& (7 : Int32)))), .unset, .unset, .unset, .unset, .unset, .unset, .unset, .unset, .unset, .unset, .unset, .unset] [])) _
      exact Steps.refl _)
  obtain ⟨bd, hbd, hM⟩ := Option.bind_eq_some_iff.mp hM
  have hbd := (Option.some.inj hbd).symm
  rw [← hbd] at q1
  have q2 : Steps p.tables e below (s₁.setTop (entryFrame m #[(.int p0), (.int p1), (.int p2)] maxLocals)) (s₁.setTop (mkF m 8 #[.val (.int p0), .val (.int p1), .val (.int p2), .val (.int bd), .unset, .unset, .unset, .unset, .unset, .unset, .unset, .unset, .unset, .unset, .unset, .unset] [(.int (4 : Int32))])) := q1.trans (by
      show Steps p.tables e below (s₁.setTop (mkF m 7 #[.val (.int p0), .val (.int p1), .val (.int p2), .val (.int bd), .unset, .unset, .unset, .unset, .unset, .unset, .unset, .unset, .unset, .unset, .unset, .unset] [])) _
      refine XS.iconst X0.here hx rfl (hb hby at_7) ?_
      show Steps p.tables e below (s₁.setTop (mkF m 8 #[.val (.int p0), .val (.int p1), .val (.int p2), .val (.int bd), .unset, .unset, .unset, .unset, .unset, .unset, .unset, .unset, .unset, .unset, .unset, .unset] [(.int (4 : Int32))])) _
      exact Steps.refl _)
  obtain ⟨y3, hy3, hM⟩ := Option.bind_eq_some_iff.mp hM
  obtain ⟨T4, h4, k4, X4, e4, E4, A4, AE4, st4⟩ := newPE X0 hx hZ (hw _ (List.mem_of_getElem? (i := 0) rfl)) e0 (g := (mkF m 8 #[.val (.int p0), .val (.int p1), .val (.int p2), .val (.int bd), .unset, .unset, .unset, .unset, .unset, .unset, .unset, .unset, .unset, .unset, .unset, .unset] [(.int (4 : Int32))])) rfl (hb hby at_8) rfl (Own.mk_some hy3).1 (cap := 4) (Own.mk_some hy3).2.1 (by decide) (by decide) (by decide) (ad := "[I") (by decide)
  obtain ⟨kb, g4⟩ : ∃ z, z = h0.size := ⟨_, rfl⟩
  rw [← g4] at A4 AE4 st4
  have ge_kb : n0 ≤ kb := Nat.le_trans Z0 (Nat.le_of_eq g4.symm)
  have Z4 : n0 ≤ h4.size := Nat.le_trans Z0 E4.1
  have I_kb : Own.IA Z h4 kb y3 := (Own.mk_some hy3).2.2 ▸ Own.IA.new A4 rfl
  have q5 : Steps p.tables e below (s₁.setTop (entryFrame m #[(.int p0), (.int p1), (.int p2)] maxLocals)) (T4.setTop (mkF m 10 #[.val (.int p0), .val (.int p1), .val (.int p2), .val (.int bd), .unset, .unset, .unset, .unset, .unset, .unset, .unset, .unset, .unset, .unset, .unset, .unset] [(.ref kb)])) := q2.trans (st4 _ (Steps.refl _))
  have q6 : Steps p.tables e below (s₁.setTop (entryFrame m #[(.int p0), (.int p1), (.int p2)] maxLocals)) (T4.setTop (mkF m 21 #[.val (.int p0), .val (.int p1), .val (.int p2), .val (.int bd), .val (.ref kb), .unset, .unset, .unset, .unset, .unset, .unset, .unset, .unset, .unset, .unset, .unset] [(.int ((p1 &&& (7 : Int32)) - ((p1 &&& (7 : Int32)) / bd) * bd)), (.int (0 : Int32)), (.ref kb)])) := q5.trans (by
      show Steps p.tables e below (T4.setTop (mkF m 10 #[.val (.int p0), .val (.int p1), .val (.int p2), .val (.int bd), .unset, .unset, .unset, .unset, .unset, .unset, .unset, .unset, .unset, .unset, .unset, .unset] [(.ref kb)])) _
      refine XS.astore X4.here hx rfl (hb hby at_10) rfl rfl (l' := #[.val (.int p0), .val (.int p1), .val (.int p2), .val (.int bd), .val (.ref kb), .unset, .unset, .unset, .unset, .unset, .unset, .unset, .unset, .unset, .unset, .unset]) rfl ?_
      show Steps p.tables e below (T4.setTop (mkF m 12 #[.val (.int p0), .val (.int p1), .val (.int p2), .val (.int bd), .val (.ref kb), .unset, .unset, .unset, .unset, .unset, .unset, .unset, .unset, .unset, .unset, .unset] [])) _
      refine XS.aload X4.here hx rfl (hb hby at_12) rfl rfl ?_
      show Steps p.tables e below (T4.setTop (mkF m 14 #[.val (.int p0), .val (.int p1), .val (.int p2), .val (.int bd), .val (.ref kb), .unset, .unset, .unset, .unset, .unset, .unset, .unset, .unset, .unset, .unset, .unset] [(.ref kb)])) _
      refine XS.iconst X4.here hx rfl (hb hby at_14) ?_
      show Steps p.tables e below (T4.setTop (mkF m 15 #[.val (.int p0), .val (.int p1), .val (.int p2), .val (.int bd), .val (.ref kb), .unset, .unset, .unset, .unset, .unset, .unset, .unset, .unset, .unset, .unset, .unset] [(.int (0 : Int32)), (.ref kb)])) _
      refine XS.iloadN X4.here hx rfl (hb hby at_15) rfl ?_
      show Steps p.tables e below (T4.setTop (mkF m 16 #[.val (.int p0), .val (.int p1), .val (.int p2), .val (.int bd), .val (.ref kb), .unset, .unset, .unset, .unset, .unset, .unset, .unset, .unset, .unset, .unset, .unset] [(.int p1), (.int (0 : Int32)), (.ref kb)])) _
      refine XS.bipush X4.here hx rfl (hb hby at_16) ?_
      show Steps p.tables e below (T4.setTop (mkF m 18 #[.val (.int p0), .val (.int p1), .val (.int p2), .val (.int bd), .val (.ref kb), .unset, .unset, .unset, .unset, .unset, .unset, .unset, .unset, .unset, .unset, .unset] [(.int (7 : Int32)), (.int p1), (.int (0 : Int32)), (.ref kb)])) _
      refine XS.iand X4.here hx rfl (hb hby at_18) rfl ?_
      show Steps p.tables e below (T4.setTop (mkF m 19 #[.val (.int p0), .val (.int p1), .val (.int p2), .val (.int bd), .val (.ref kb), .unset, .unset, .unset, .unset, .unset, .unset, .unset, .unset, .unset, .unset, .unset] [(.int (p1 &&& (7 : Int32))), (.int (0 : Int32)), (.ref kb)])) _
      refine XS.iloadN X4.here hx rfl (hb hby at_19) rfl ?_
      show Steps p.tables e below (T4.setTop (mkF m 20 #[.val (.int p0), .val (.int p1), .val (.int p2), .val (.int bd), .val (.ref kb), .unset, .unset, .unset, .unset, .unset, .unset, .unset, .unset, .unset, .unset, .unset] [(.int bd), (.int (p1 &&& (7 : Int32))), (.int (0 : Int32)), (.ref kb)])) _
      refine XS.irem X4.here hx rfl (hb hby at_20) rfl (own_nz p2 bd hbd) ?_
      show Steps p.tables e below (T4.setTop (mkF m 21 #[.val (.int p0), .val (.int p1), .val (.int p2), .val (.int bd), .val (.ref kb), .unset, .unset, .unset, .unset, .unset, .unset, .unset, .unset, .unset, .unset, .unset] [(.int ((p1 &&& (7 : Int32)) - ((p1 &&& (7 : Int32)) / bd) * bd)), (.int (0 : Int32)), (.ref kb)])) _
      exact Steps.refl _)
  obtain ⟨y7, hy7, hM⟩ := Option.bind_eq_some_iff.mp hM
  obtain ⟨T8, h8, X8, e8, W8, J8, st8⟩ := Own.stO X4 hx hZ e4 I_kb hy7 (g := (mkF m 21 #[.val (.int p0), .val (.int p1), .val (.int p2), .val (.int bd), .val (.ref kb), .unset, .unset, .unset, .unset, .unset, .unset, .unset, .unset, .unset, .unset, .unset] [(.int ((p1 &&& (7 : Int32)) - ((p1 &&& (7 : Int32)) / bd) * bd)), (.int (0 : Int32)), (.ref kb)])) rfl rfl (hb hby at_21)
  have N8 := Fr.snoc X8 N0 ge_kb
  have Z8 : n0 ≤ h8.size := Own.size_wr W8 Z4
  have q9 : Steps p.tables e below (s₁.setTop (entryFrame m #[(.int p0), (.int p1), (.int p2)] maxLocals)) (T8.setTop (mkF m 22 #[.val (.int p0), .val (.int p1), .val (.int p2), .val (.int bd), .val (.ref kb), .unset, .unset, .unset, .unset, .unset, .unset, .unset, .unset, .unset, .unset, .unset] [])) := q6.trans (st8 _ (Steps.refl _))
  have q10 : Steps p.tables e below (s₁.setTop (entryFrame m #[(.int p0), (.int p1), (.int p2)] maxLocals)) (T8.setTop (mkF m 33 #[.val (.int p0), .val (.int p1), .val (.int p2), .val (.int bd), .val (.ref kb), .unset, .unset, .unset, .unset, .unset, .unset, .unset, .unset, .unset, .unset, .unset] [(.int ((((p1.toUInt32 >>> ((3 : Int32) &&& 31).toUInt32).toInt32) &&& (7 : Int32)) - ((((p1.toUInt32 >>> ((3 : Int32) &&& 31).toUInt32).toInt32) &&& (7 : Int32)) / bd) * bd)), (.int (1 : Int32)), (.ref kb)])) := q9.trans (by
      show Steps p.tables e below (T8.setTop (mkF m 22 #[.val (.int p0), .val (.int p1), .val (.int p2), .val (.int bd), .val (.ref kb), .unset, .unset, .unset, .unset, .unset, .unset, .unset, .unset, .unset, .unset, .unset] [])) _
      refine XS.aload X8.here hx rfl (hb hby at_22) rfl rfl ?_
      show Steps p.tables e below (T8.setTop (mkF m 24 #[.val (.int p0), .val (.int p1), .val (.int p2), .val (.int bd), .val (.ref kb), .unset, .unset, .unset, .unset, .unset, .unset, .unset, .unset, .unset, .unset, .unset] [(.ref kb)])) _
      refine XS.iconst X8.here hx rfl (hb hby at_24) ?_
      show Steps p.tables e below (T8.setTop (mkF m 25 #[.val (.int p0), .val (.int p1), .val (.int p2), .val (.int bd), .val (.ref kb), .unset, .unset, .unset, .unset, .unset, .unset, .unset, .unset, .unset, .unset, .unset] [(.int (1 : Int32)), (.ref kb)])) _
      refine XS.iloadN X8.here hx rfl (hb hby at_25) rfl ?_
      show Steps p.tables e below (T8.setTop (mkF m 26 #[.val (.int p0), .val (.int p1), .val (.int p2), .val (.int bd), .val (.ref kb), .unset, .unset, .unset, .unset, .unset, .unset, .unset, .unset, .unset, .unset, .unset] [(.int p1), (.int (1 : Int32)), (.ref kb)])) _
      refine XS.iconst X8.here hx rfl (hb hby at_26) ?_
      show Steps p.tables e below (T8.setTop (mkF m 27 #[.val (.int p0), .val (.int p1), .val (.int p2), .val (.int bd), .val (.ref kb), .unset, .unset, .unset, .unset, .unset, .unset, .unset, .unset, .unset, .unset, .unset] [(.int (3 : Int32)), (.int p1), (.int (1 : Int32)), (.ref kb)])) _
      refine XS.iushr X8.here hx rfl (hb hby at_27) rfl ?_
      show Steps p.tables e below (T8.setTop (mkF m 28 #[.val (.int p0), .val (.int p1), .val (.int p2), .val (.int bd), .val (.ref kb), .unset, .unset, .unset, .unset, .unset, .unset, .unset, .unset, .unset, .unset, .unset] [(.int ((p1.toUInt32 >>> ((3 : Int32) &&& 31).toUInt32).toInt32)), (.int (1 : Int32)), (.ref kb)])) _
      refine XS.bipush X8.here hx rfl (hb hby at_28) ?_
      show Steps p.tables e below (T8.setTop (mkF m 30 #[.val (.int p0), .val (.int p1), .val (.int p2), .val (.int bd), .val (.ref kb), .unset, .unset, .unset, .unset, .unset, .unset, .unset, .unset, .unset, .unset, .unset] [(.int (7 : Int32)), (.int ((p1.toUInt32 >>> ((3 : Int32) &&& 31).toUInt32).toInt32)), (.int (1 : Int32)), (.ref kb)])) _
      refine XS.iand X8.here hx rfl (hb hby at_30) rfl ?_
      show Steps p.tables e below (T8.setTop (mkF m 31 #[.val (.int p0), .val (.int p1), .val (.int p2), .val (.int bd), .val (.ref kb), .unset, .unset, .unset, .unset, .unset, .unset, .unset, .unset, .unset, .unset, .unset] [(.int (((p1.toUInt32 >>> ((3 : Int32) &&& 31).toUInt32).toInt32) &&& (7 : Int32))), (.int (1 : Int32)), (.ref kb)])) _
      refine XS.iloadN X8.here hx rfl (hb hby at_31) rfl ?_
      show Steps p.tables e below (T8.setTop (mkF m 32 #[.val (.int p0), .val (.int p1), .val (.int p2), .val (.int bd), .val (.ref kb), .unset, .unset, .unset, .unset, .unset, .unset, .unset, .unset, .unset, .unset, .unset] [(.int bd), (.int (((p1.toUInt32 >>> ((3 : Int32) &&& 31).toUInt32).toInt32) &&& (7 : Int32))), (.int (1 : Int32)), (.ref kb)])) _
      refine XS.irem X8.here hx rfl (hb hby at_32) rfl (own_nz p2 bd hbd) ?_
      show Steps p.tables e below (T8.setTop (mkF m 33 #[.val (.int p0), .val (.int p1), .val (.int p2), .val (.int bd), .val (.ref kb), .unset, .unset, .unset, .unset, .unset, .unset, .unset, .unset, .unset, .unset, .unset] [(.int ((((p1.toUInt32 >>> ((3 : Int32) &&& 31).toUInt32).toInt32) &&& (7 : Int32)) - ((((p1.toUInt32 >>> ((3 : Int32) &&& 31).toUInt32).toInt32) &&& (7 : Int32)) / bd) * bd)), (.int (1 : Int32)), (.ref kb)])) _
      exact Steps.refl _)
  obtain ⟨y11, hy11, hM⟩ := Option.bind_eq_some_iff.mp hM
  obtain ⟨T12, h12, X12, e12, W12, J12, st12⟩ := Own.stO X8 hx hZ e8 J8 hy11 (g := (mkF m 33 #[.val (.int p0), .val (.int p1), .val (.int p2), .val (.int bd), .val (.ref kb), .unset, .unset, .unset, .unset, .unset, .unset, .unset, .unset, .unset, .unset, .unset] [(.int ((((p1.toUInt32 >>> ((3 : Int32) &&& 31).toUInt32).toInt32) &&& (7 : Int32)) - ((((p1.toUInt32 >>> ((3 : Int32) &&& 31).toUInt32).toInt32) &&& (7 : Int32)) / bd) * bd)), (.int (1 : Int32)), (.ref kb)])) rfl rfl (hb hby at_33)
  have N12 := Fr.snoc X12 N8 ge_kb
  have Z12 : n0 ≤ h12.size := Own.size_wr W12 Z8
  have q13 : Steps p.tables e below (s₁.setTop (entryFrame m #[(.int p0), (.int p1), (.int p2)] maxLocals)) (T12.setTop (mkF m 34 #[.val (.int p0), .val (.int p1), .val (.int p2), .val (.int bd), .val (.ref kb), .unset, .unset, .unset, .unset, .unset, .unset, .unset, .unset, .unset, .unset, .unset] [])) := q10.trans (st12 _ (Steps.refl _))
  have q14 : Steps p.tables e below (s₁.setTop (entryFrame m #[(.int p0), (.int p1), (.int p2)] maxLocals)) (T12.setTop (mkF m 46 #[.val (.int p0), .val (.int p1), .val (.int p2), .val (.int bd), .val (.ref kb), .unset, .unset, .unset, .unset, .unset, .unset, .unset, .unset, .unset, .unset, .unset] [(.int ((((p1.toUInt32 >>> ((6 : Int32) &&& 31).toUInt32).toInt32) &&& (7 : Int32)) - ((((p1.toUInt32 >>> ((6 : Int32) &&& 31).toUInt32).toInt32) &&& (7 : Int32)) / bd) * bd)), (.int (2 : Int32)), (.ref kb)])) := q13.trans (by
      show Steps p.tables e below (T12.setTop (mkF m 34 #[.val (.int p0), .val (.int p1), .val (.int p2), .val (.int bd), .val (.ref kb), .unset, .unset, .unset, .unset, .unset, .unset, .unset, .unset, .unset, .unset, .unset] [])) _
      refine XS.aload X12.here hx rfl (hb hby at_34) rfl rfl ?_
      show Steps p.tables e below (T12.setTop (mkF m 36 #[.val (.int p0), .val (.int p1), .val (.int p2), .val (.int bd), .val (.ref kb), .unset, .unset, .unset, .unset, .unset, .unset, .unset, .unset, .unset, .unset, .unset] [(.ref kb)])) _
      refine XS.iconst X12.here hx rfl (hb hby at_36) ?_
      show Steps p.tables e below (T12.setTop (mkF m 37 #[.val (.int p0), .val (.int p1), .val (.int p2), .val (.int bd), .val (.ref kb), .unset, .unset, .unset, .unset, .unset, .unset, .unset, .unset, .unset, .unset, .unset] [(.int (2 : Int32)), (.ref kb)])) _
      refine XS.iloadN X12.here hx rfl (hb hby at_37) rfl ?_
      show Steps p.tables e below (T12.setTop (mkF m 38 #[.val (.int p0), .val (.int p1), .val (.int p2), .val (.int bd), .val (.ref kb), .unset, .unset, .unset, .unset, .unset, .unset, .unset, .unset, .unset, .unset, .unset] [(.int p1), (.int (2 : Int32)), (.ref kb)])) _
      refine XS.bipush X12.here hx rfl (hb hby at_38) ?_
      show Steps p.tables e below (T12.setTop (mkF m 40 #[.val (.int p0), .val (.int p1), .val (.int p2), .val (.int bd), .val (.ref kb), .unset, .unset, .unset, .unset, .unset, .unset, .unset, .unset, .unset, .unset, .unset] [(.int (6 : Int32)), (.int p1), (.int (2 : Int32)), (.ref kb)])) _
      refine XS.iushr X12.here hx rfl (hb hby at_40) rfl ?_
      show Steps p.tables e below (T12.setTop (mkF m 41 #[.val (.int p0), .val (.int p1), .val (.int p2), .val (.int bd), .val (.ref kb), .unset, .unset, .unset, .unset, .unset, .unset, .unset, .unset, .unset, .unset, .unset] [(.int ((p1.toUInt32 >>> ((6 : Int32) &&& 31).toUInt32).toInt32)), (.int (2 : Int32)), (.ref kb)])) _
      refine XS.bipush X12.here hx rfl (hb hby at_41) ?_
      show Steps p.tables e below (T12.setTop (mkF m 43 #[.val (.int p0), .val (.int p1), .val (.int p2), .val (.int bd), .val (.ref kb), .unset, .unset, .unset, .unset, .unset, .unset, .unset, .unset, .unset, .unset, .unset] [(.int (7 : Int32)), (.int ((p1.toUInt32 >>> ((6 : Int32) &&& 31).toUInt32).toInt32)), (.int (2 : Int32)), (.ref kb)])) _
      refine XS.iand X12.here hx rfl (hb hby at_43) rfl ?_
      show Steps p.tables e below (T12.setTop (mkF m 44 #[.val (.int p0), .val (.int p1), .val (.int p2), .val (.int bd), .val (.ref kb), .unset, .unset, .unset, .unset, .unset, .unset, .unset, .unset, .unset, .unset, .unset] [(.int (((p1.toUInt32 >>> ((6 : Int32) &&& 31).toUInt32).toInt32) &&& (7 : Int32))), (.int (2 : Int32)), (.ref kb)])) _
      refine XS.iloadN X12.here hx rfl (hb hby at_44) rfl ?_
      show Steps p.tables e below (T12.setTop (mkF m 45 #[.val (.int p0), .val (.int p1), .val (.int p2), .val (.int bd), .val (.ref kb), .unset, .unset, .unset, .unset, .unset, .unset, .unset, .unset, .unset, .unset, .unset] [(.int bd), (.int (((p1.toUInt32 >>> ((6 : Int32) &&& 31).toUInt32).toInt32) &&& (7 : Int32))), (.int (2 : Int32)), (.ref kb)])) _
      refine XS.irem X12.here hx rfl (hb hby at_45) rfl (own_nz p2 bd hbd) ?_
      show Steps p.tables e below (T12.setTop (mkF m 46 #[.val (.int p0), .val (.int p1), .val (.int p2), .val (.int bd), .val (.ref kb), .unset, .unset, .unset, .unset, .unset, .unset, .unset, .unset, .unset, .unset, .unset] [(.int ((((p1.toUInt32 >>> ((6 : Int32) &&& 31).toUInt32).toInt32) &&& (7 : Int32)) - ((((p1.toUInt32 >>> ((6 : Int32) &&& 31).toUInt32).toInt32) &&& (7 : Int32)) / bd) * bd)), (.int (2 : Int32)), (.ref kb)])) _
      exact Steps.refl _)
  obtain ⟨y15, hy15, hM⟩ := Option.bind_eq_some_iff.mp hM
  obtain ⟨T16, h16, X16, e16, W16, J16, st16⟩ := Own.stO X12 hx hZ e12 J12 hy15 (g := (mkF m 46 #[.val (.int p0), .val (.int p1), .val (.int p2), .val (.int bd), .val (.ref kb), .unset, .unset, .unset, .unset, .unset, .unset, .unset, .unset, .unset, .unset, .unset] [(.int ((((p1.toUInt32 >>> ((6 : Int32) &&& 31).toUInt32).toInt32) &&& (7 : Int32)) - ((((p1.toUInt32 >>> ((6 : Int32) &&& 31).toUInt32).toInt32) &&& (7 : Int32)) / bd) * bd)), (.int (2 : Int32)), (.ref kb)])) rfl rfl (hb hby at_46)
  have N16 := Fr.snoc X16 N12 ge_kb
  have Z16 : n0 ≤ h16.size := Own.size_wr W16 Z12
  have q17 : Steps p.tables e below (s₁.setTop (entryFrame m #[(.int p0), (.int p1), (.int p2)] maxLocals)) (T16.setTop (mkF m 47 #[.val (.int p0), .val (.int p1), .val (.int p2), .val (.int bd), .val (.ref kb), .unset, .unset, .unset, .unset, .unset, .unset, .unset, .unset, .unset, .unset, .unset] [])) := q14.trans (st16 _ (Steps.refl _))
  have q18 : Steps p.tables e below (s₁.setTop (entryFrame m #[(.int p0), (.int p1), (.int p2)] maxLocals)) (T16.setTop (mkF m 59 #[.val (.int p0), .val (.int p1), .val (.int p2), .val (.int bd), .val (.ref kb), .unset, .unset, .unset, .unset, .unset, .unset, .unset, .unset, .unset, .unset, .unset] [(.int ((((p1.toUInt32 >>> ((9 : Int32) &&& 31).toUInt32).toInt32) &&& (7 : Int32)) - ((((p1.toUInt32 >>> ((9 : Int32) &&& 31).toUInt32).toInt32) &&& (7 : Int32)) / bd) * bd)), (.int (3 : Int32)), (.ref kb)])) := q17.trans (by
      show Steps p.tables e below (T16.setTop (mkF m 47 #[.val (.int p0), .val (.int p1), .val (.int p2), .val (.int bd), .val (.ref kb), .unset, .unset, .unset, .unset, .unset, .unset, .unset, .unset, .unset, .unset, .unset] [])) _
      refine XS.aload X16.here hx rfl (hb hby at_47) rfl rfl ?_
      show Steps p.tables e below (T16.setTop (mkF m 49 #[.val (.int p0), .val (.int p1), .val (.int p2), .val (.int bd), .val (.ref kb), .unset, .unset, .unset, .unset, .unset, .unset, .unset, .unset, .unset, .unset, .unset] [(.ref kb)])) _
      refine XS.iconst X16.here hx rfl (hb hby at_49) ?_
      show Steps p.tables e below (T16.setTop (mkF m 50 #[.val (.int p0), .val (.int p1), .val (.int p2), .val (.int bd), .val (.ref kb), .unset, .unset, .unset, .unset, .unset, .unset, .unset, .unset, .unset, .unset, .unset] [(.int (3 : Int32)), (.ref kb)])) _
      refine XS.iloadN X16.here hx rfl (hb hby at_50) rfl ?_
      show Steps p.tables e below (T16.setTop (mkF m 51 #[.val (.int p0), .val (.int p1), .val (.int p2), .val (.int bd), .val (.ref kb), .unset, .unset, .unset, .unset, .unset, .unset, .unset, .unset, .unset, .unset, .unset] [(.int p1), (.int (3 : Int32)), (.ref kb)])) _
      refine XS.bipush X16.here hx rfl (hb hby at_51) ?_
      show Steps p.tables e below (T16.setTop (mkF m 53 #[.val (.int p0), .val (.int p1), .val (.int p2), .val (.int bd), .val (.ref kb), .unset, .unset, .unset, .unset, .unset, .unset, .unset, .unset, .unset, .unset, .unset] [(.int (9 : Int32)), (.int p1), (.int (3 : Int32)), (.ref kb)])) _
      refine XS.iushr X16.here hx rfl (hb hby at_53) rfl ?_
      show Steps p.tables e below (T16.setTop (mkF m 54 #[.val (.int p0), .val (.int p1), .val (.int p2), .val (.int bd), .val (.ref kb), .unset, .unset, .unset, .unset, .unset, .unset, .unset, .unset, .unset, .unset, .unset] [(.int ((p1.toUInt32 >>> ((9 : Int32) &&& 31).toUInt32).toInt32)), (.int (3 : Int32)), (.ref kb)])) _
      refine XS.bipush X16.here hx rfl (hb hby at_54) ?_
      show Steps p.tables e below (T16.setTop (mkF m 56 #[.val (.int p0), .val (.int p1), .val (.int p2), .val (.int bd), .val (.ref kb), .unset, .unset, .unset, .unset, .unset, .unset, .unset, .unset, .unset, .unset, .unset] [(.int (7 : Int32)), (.int ((p1.toUInt32 >>> ((9 : Int32) &&& 31).toUInt32).toInt32)), (.int (3 : Int32)), (.ref kb)])) _
      refine XS.iand X16.here hx rfl (hb hby at_56) rfl ?_
      show Steps p.tables e below (T16.setTop (mkF m 57 #[.val (.int p0), .val (.int p1), .val (.int p2), .val (.int bd), .val (.ref kb), .unset, .unset, .unset, .unset, .unset, .unset, .unset, .unset, .unset, .unset, .unset] [(.int (((p1.toUInt32 >>> ((9 : Int32) &&& 31).toUInt32).toInt32) &&& (7 : Int32))), (.int (3 : Int32)), (.ref kb)])) _
      refine XS.iloadN X16.here hx rfl (hb hby at_57) rfl ?_
      show Steps p.tables e below (T16.setTop (mkF m 58 #[.val (.int p0), .val (.int p1), .val (.int p2), .val (.int bd), .val (.ref kb), .unset, .unset, .unset, .unset, .unset, .unset, .unset, .unset, .unset, .unset, .unset] [(.int bd), (.int (((p1.toUInt32 >>> ((9 : Int32) &&& 31).toUInt32).toInt32) &&& (7 : Int32))), (.int (3 : Int32)), (.ref kb)])) _
      refine XS.irem X16.here hx rfl (hb hby at_58) rfl (own_nz p2 bd hbd) ?_
      show Steps p.tables e below (T16.setTop (mkF m 59 #[.val (.int p0), .val (.int p1), .val (.int p2), .val (.int bd), .val (.ref kb), .unset, .unset, .unset, .unset, .unset, .unset, .unset, .unset, .unset, .unset, .unset] [(.int ((((p1.toUInt32 >>> ((9 : Int32) &&& 31).toUInt32).toInt32) &&& (7 : Int32)) - ((((p1.toUInt32 >>> ((9 : Int32) &&& 31).toUInt32).toInt32) &&& (7 : Int32)) / bd) * bd)), (.int (3 : Int32)), (.ref kb)])) _
      exact Steps.refl _)
  obtain ⟨y19, hy19, hM⟩ := Option.bind_eq_some_iff.mp hM
  obtain ⟨T20, h20, X20, e20, W20, J20, st20⟩ := Own.stO X16 hx hZ e16 J16 hy19 (g := (mkF m 59 #[.val (.int p0), .val (.int p1), .val (.int p2), .val (.int bd), .val (.ref kb), .unset, .unset, .unset, .unset, .unset, .unset, .unset, .unset, .unset, .unset, .unset] [(.int ((((p1.toUInt32 >>> ((9 : Int32) &&& 31).toUInt32).toInt32) &&& (7 : Int32)) - ((((p1.toUInt32 >>> ((9 : Int32) &&& 31).toUInt32).toInt32) &&& (7 : Int32)) / bd) * bd)), (.int (3 : Int32)), (.ref kb)])) rfl rfl (hb hby at_59)
  have N20 := Fr.snoc X20 N16 ge_kb
  have Z20 : n0 ≤ h20.size := Own.size_wr W20 Z16
  have q21 : Steps p.tables e below (s₁.setTop (entryFrame m #[(.int p0), (.int p1), (.int p2)] maxLocals)) (T20.setTop (mkF m 60 #[.val (.int p0), .val (.int p1), .val (.int p2), .val (.int bd), .val (.ref kb), .unset, .unset, .unset, .unset, .unset, .unset, .unset, .unset, .unset, .unset, .unset] [])) := q18.trans (st20 _ (Steps.refl _))
  have q22 : Steps p.tables e below (s₁.setTop (entryFrame m #[(.int p0), (.int p1), (.int p2)] maxLocals)) (T20.setTop (mkF m 65 #[.val (.int p0), .val (.int p1), .val (.int p2), .val (.int bd), .val (.ref kb), .val (.int (p0 &&& (3 : Int32))), .unset, .unset, .unset, .unset, .unset, .unset, .unset, .unset, .unset, .unset] [])) := q21.trans (by
      show Steps p.tables e below (T20.setTop (mkF m 60 #[.val (.int p0), .val (.int p1), .val (.int p2), .val (.int bd), .val (.ref kb), .unset, .unset, .unset, .unset, .unset, .unset, .unset, .unset, .unset, .unset, .unset] [])) _
      refine XS.iloadN X20.here hx rfl (hb hby at_60) rfl ?_
      show Steps p.tables e below (T20.setTop (mkF m 61 #[.val (.int p0), .val (.int p1), .val (.int p2), .val (.int bd), .val (.ref kb), .unset, .unset, .unset, .unset, .unset, .unset, .unset, .unset, .unset, .unset, .unset] [(.int p0)])) _
      refine XS.iconst X20.here hx rfl (hb hby at_61) ?_
      show Steps p.tables e below (T20.setTop (mkF m 62 #[.val (.int p0), .val (.int p1), .val (.int p2), .val (.int bd), .val (.ref kb), .unset, .unset, .unset, .unset, .unset, .unset, .unset, .unset, .unset, .unset, .unset] [(.int (3 : Int32)), (.int p0)])) _
      refine XS.iand X20.here hx rfl (hb hby at_62) rfl ?_
      show Steps p.tables e below (T20.setTop (mkF m 63 #[.val (.int p0), .val (.int p1), .val (.int p2), .val (.int bd), .val (.ref kb), .unset, .unset, .unset, .unset, .unset, .unset, .unset, .unset, .unset, .unset, .unset] [(.int (p0 &&& (3 : Int32)))])) _
      refine XS.istore X20.here hx rfl (hb hby at_63) rfl (l' := #[.val (.int p0), .val (.int p1), .val (.int p2), .val (.int bd), .val (.ref kb), .val (.int (p0 &&& (3 : Int32))), .unset, .unset, .unset, .unset, .unset, .unset, .unset, .unset, .unset, .unset]) rfl ?_
      show Steps p.tables e below (T20.setTop (mkF m 65 #[.val (.int p0), .val (.int p1), .val (.int p2), .val (.int bd), .val (.ref kb), .val (.int (p0 &&& (3 : Int32))), .unset, .unset, .unset, .unset, .unset, .unset, .unset, .unset, .unset, .unset] [])) _
      exact Steps.refl _)
  obtain ⟨i0, hi0, hM⟩ := Option.bind_eq_some_iff.mp hM
  have hi0 := (Option.some.inj hi0).symm
  rw [← hi0] at q22
  have q23 : Steps p.tables e below (s₁.setTop (entryFrame m #[(.int p0), (.int p1), (.int p2)] maxLocals)) (T20.setTop (mkF m 72 #[.val (.int p0), .val (.int p1), .val (.int p2), .val (.int bd), .val (.ref kb), .val (.int i0), .val (.int (((p0.toUInt32 >>> ((2 : Int32) &&& 31).toUInt32).toInt32) &&& (3 : Int32))), .unset, .unset, .unset, .unset, .unset, .unset, .unset, .unset, .unset] [])) := q22.trans (by
      show Steps p.tables e below (T20.setTop (mkF m 65 #[.val (.int p0), .val (.int p1), .val (.int p2), .val (.int bd), .val (.ref kb), .val (.int i0), .unset, .unset, .unset, .unset, .unset, .unset, .unset, .unset, .unset, .unset] [])) _
      refine XS.iloadN X20.here hx rfl (hb hby at_65) rfl ?_
      show Steps p.tables e below (T20.setTop (mkF m 66 #[.val (.int p0), .val (.int p1), .val (.int p2), .val (.int bd), .val (.ref kb), .val (.int i0), .unset, .unset, .unset, .unset, .unset, .unset, .unset, .unset, .unset, .unset] [(.int p0)])) _
      refine XS.iconst X20.here hx rfl (hb hby at_66) ?_
      show Steps p.tables e below (T20.setTop (mkF m 67 #[.val (.int p0), .val (.int p1), .val (.int p2), .val (.int bd), .val (.ref kb), .val (.int i0), .unset, .unset, .unset, .unset, .unset, .unset, .unset, .unset, .unset, .unset] [(.int (2 : Int32)), (.int p0)])) _
      refine XS.iushr X20.here hx rfl (hb hby at_67) rfl ?_
      show Steps p.tables e below (T20.setTop (mkF m 68 #[.val (.int p0), .val (.int p1), .val (.int p2), .val (.int bd), .val (.ref kb), .val (.int i0), .unset, .unset, .unset, .unset, .unset, .unset, .unset, .unset, .unset, .unset] [(.int ((p0.toUInt32 >>> ((2 : Int32) &&& 31).toUInt32).toInt32))])) _
      refine XS.iconst X20.here hx rfl (hb hby at_68) ?_
      show Steps p.tables e below (T20.setTop (mkF m 69 #[.val (.int p0), .val (.int p1), .val (.int p2), .val (.int bd), .val (.ref kb), .val (.int i0), .unset, .unset, .unset, .unset, .unset, .unset, .unset, .unset, .unset, .unset] [(.int (3 : Int32)), (.int ((p0.toUInt32 >>> ((2 : Int32) &&& 31).toUInt32).toInt32))])) _
      refine XS.iand X20.here hx rfl (hb hby at_69) rfl ?_
      show Steps p.tables e below (T20.setTop (mkF m 70 #[.val (.int p0), .val (.int p1), .val (.int p2), .val (.int bd), .val (.ref kb), .val (.int i0), .unset, .unset, .unset, .unset, .unset, .unset, .unset, .unset, .unset, .unset] [(.int (((p0.toUInt32 >>> ((2 : Int32) &&& 31).toUInt32).toInt32) &&& (3 : Int32)))])) _
      refine XS.istore X20.here hx rfl (hb hby at_70) rfl (l' := #[.val (.int p0), .val (.int p1), .val (.int p2), .val (.int bd), .val (.ref kb), .val (.int i0), .val (.int (((p0.toUInt32 >>> ((2 : Int32) &&& 31).toUInt32).toInt32) &&& (3 : Int32))), .unset, .unset, .unset, .unset, .unset, .unset, .unset, .unset, .unset]) rfl ?_
      show Steps p.tables e below (T20.setTop (mkF m 72 #[.val (.int p0), .val (.int p1), .val (.int p2), .val (.int bd), .val (.ref kb), .val (.int i0), .val (.int (((p0.toUInt32 >>> ((2 : Int32) &&& 31).toUInt32).toInt32) &&& (3 : Int32))), .unset, .unset, .unset, .unset, .unset, .unset, .unset, .unset, .unset] [])) _
      exact Steps.refl _)
  obtain ⟨i1, hi1, hM⟩ := Option.bind_eq_some_iff.mp hM
  have hi1 := (Option.some.inj hi1).symm
  rw [← hi1] at q23
  have q24 : Steps p.tables e below (s₁.setTop (entryFrame m #[(.int p0), (.int p1), (.int p2)] maxLocals)) (T20.setTop (mkF m 79 #[.val (.int p0), .val (.int p1), .val (.int p2), .val (.int bd), .val (.ref kb), .val (.int i0), .val (.int i1), .val (.int (((p0.toUInt32 >>> ((4 : Int32) &&& 31).toUInt32).toInt32) &&& (3 : Int32))), .unset, .unset, .unset, .unset, .unset, .unset, .unset, .unset] [])) := q23.trans (by
      show Steps p.tables e below (T20.setTop (mkF m 72 #[.val (.int p0), .val (.int p1), .val (.int p2), .val (.int bd), .val (.ref kb), .val (.int i0), .val (.int i1), .unset, .unset, .unset, .unset, .unset, .unset, .unset, .unset, .unset] [])) _
      refine XS.iloadN X20.here hx rfl (hb hby at_72) rfl ?_
      show Steps p.tables e below (T20.setTop (mkF m 73 #[.val (.int p0), .val (.int p1), .val (.int p2), .val (.int bd), .val (.ref kb), .val (.int i0), .val (.int i1), .unset, .unset, .unset, .unset, .unset, .unset, .unset, .unset, .unset] [(.int p0)])) _
      refine XS.iconst X20.here hx rfl (hb hby at_73) ?_
      show Steps p.tables e below (T20.setTop (mkF m 74 #[.val (.int p0), .val (.int p1), .val (.int p2), .val (.int bd), .val (.ref kb), .val (.int i0), .val (.int i1), .unset, .unset, .unset, .unset, .unset, .unset, .unset, .unset, .unset] [(.int (4 : Int32)), (.int p0)])) _
      refine XS.iushr X20.here hx rfl (hb hby at_74) rfl ?_
      show Steps p.tables e below (T20.setTop (mkF m 75 #[.val (.int p0), .val (.int p1), .val (.int p2), .val (.int bd), .val (.ref kb), .val (.int i0), .val (.int i1), .unset, .unset, .unset, .unset, .unset, .unset, .unset, .unset, .unset] [(.int ((p0.toUInt32 >>> ((4 : Int32) &&& 31).toUInt32).toInt32))])) _
      refine XS.iconst X20.here hx rfl (hb hby at_75) ?_
      show Steps p.tables e below (T20.setTop (mkF m 76 #[.val (.int p0), .val (.int p1), .val (.int p2), .val (.int bd), .val (.ref kb), .val (.int i0), .val (.int i1), .unset, .unset, .unset, .unset, .unset, .unset, .unset, .unset, .unset] [(.int (3 : Int32)), (.int ((p0.toUInt32 >>> ((4 : Int32) &&& 31).toUInt32).toInt32))])) _
      refine XS.iand X20.here hx rfl (hb hby at_76) rfl ?_
      show Steps p.tables e below (T20.setTop (mkF m 77 #[.val (.int p0), .val (.int p1), .val (.int p2), .val (.int bd), .val (.ref kb), .val (.int i0), .val (.int i1), .unset, .unset, .unset, .unset, .unset, .unset, .unset, .unset, .unset] [(.int (((p0.toUInt32 >>> ((4 : Int32) &&& 31).toUInt32).toInt32) &&& (3 : Int32)))])) _
      refine XS.istore X20.here hx rfl (hb hby at_77) rfl (l' := #[.val (.int p0), .val (.int p1), .val (.int p2), .val (.int bd), .val (.ref kb), .val (.int i0), .val (.int i1), .val (.int (((p0.toUInt32 >>> ((4 : Int32) &&& 31).toUInt32).toInt32) &&& (3 : Int32))), .unset, .unset, .unset, .unset, .unset, .unset, .unset, .unset]) rfl ?_
      show Steps p.tables e below (T20.setTop (mkF m 79 #[.val (.int p0), .val (.int p1), .val (.int p2), .val (.int bd), .val (.ref kb), .val (.int i0), .val (.int i1), .val (.int (((p0.toUInt32 >>> ((4 : Int32) &&& 31).toUInt32).toInt32) &&& (3 : Int32))), .unset, .unset, .unset, .unset, .unset, .unset, .unset, .unset] [])) _
      exact Steps.refl _)
  obtain ⟨i2, hi2, hM⟩ := Option.bind_eq_some_iff.mp hM
  have hi2 := (Option.some.inj hi2).symm
  rw [← hi2] at q24
  have q25 : Steps p.tables e below (s₁.setTop (entryFrame m #[(.int p0), (.int p1), (.int p2)] maxLocals)) (T20.setTop (mkF m 87 #[.val (.int p0), .val (.int p1), .val (.int p2), .val (.int bd), .val (.ref kb), .val (.int i0), .val (.int i1), .val (.int i2), .val (.int (((p0.toUInt32 >>> ((6 : Int32) &&& 31).toUInt32).toInt32) &&& (3 : Int32))), .unset, .unset, .unset, .unset, .unset, .unset, .unset] [])) := q24.trans (by
      show Steps p.tables e below (T20.setTop (mkF m 79 #[.val (.int p0), .val (.int p1), .val (.int p2), .val (.int bd), .val (.ref kb), .val (.int i0), .val (.int i1), .val (.int i2), .unset, .unset, .unset, .unset, .unset, .unset, .unset, .unset] [])) _
      refine XS.iloadN X20.here hx rfl (hb hby at_79) rfl ?_
      show Steps p.tables e below (T20.setTop (mkF m 80 #[.val (.int p0), .val (.int p1), .val (.int p2), .val (.int bd), .val (.ref kb), .val (.int i0), .val (.int i1), .val (.int i2), .unset, .unset, .unset, .unset, .unset, .unset, .unset, .unset] [(.int p0)])) _
      refine XS.bipush X20.here hx rfl (hb hby at_80) ?_
      show Steps p.tables e below (T20.setTop (mkF m 82 #[.val (.int p0), .val (.int p1), .val (.int p2), .val (.int bd), .val (.ref kb), .val (.int i0), .val (.int i1), .val (.int i2), .unset, .unset, .unset, .unset, .unset, .unset, .unset, .unset] [(.int (6 : Int32)), (.int p0)])) _
      refine XS.iushr X20.here hx rfl (hb hby at_82) rfl ?_
      show Steps p.tables e below (T20.setTop (mkF m 83 #[.val (.int p0), .val (.int p1), .val (.int p2), .val (.int bd), .val (.ref kb), .val (.int i0), .val (.int i1), .val (.int i2), .unset, .unset, .unset, .unset, .unset, .unset, .unset, .unset] [(.int ((p0.toUInt32 >>> ((6 : Int32) &&& 31).toUInt32).toInt32))])) _
      refine XS.iconst X20.here hx rfl (hb hby at_83) ?_
      show Steps p.tables e below (T20.setTop (mkF m 84 #[.val (.int p0), .val (.int p1), .val (.int p2), .val (.int bd), .val (.ref kb), .val (.int i0), .val (.int i1), .val (.int i2), .unset, .unset, .unset, .unset, .unset, .unset, .unset, .unset] [(.int (3 : Int32)), (.int ((p0.toUInt32 >>> ((6 : Int32) &&& 31).toUInt32).toInt32))])) _
      refine XS.iand X20.here hx rfl (hb hby at_84) rfl ?_
      show Steps p.tables e below (T20.setTop (mkF m 85 #[.val (.int p0), .val (.int p1), .val (.int p2), .val (.int bd), .val (.ref kb), .val (.int i0), .val (.int i1), .val (.int i2), .unset, .unset, .unset, .unset, .unset, .unset, .unset, .unset] [(.int (((p0.toUInt32 >>> ((6 : Int32) &&& 31).toUInt32).toInt32) &&& (3 : Int32)))])) _
      refine XS.istore X20.here hx rfl (hb hby at_85) rfl (l' := #[.val (.int p0), .val (.int p1), .val (.int p2), .val (.int bd), .val (.ref kb), .val (.int i0), .val (.int i1), .val (.int i2), .val (.int (((p0.toUInt32 >>> ((6 : Int32) &&& 31).toUInt32).toInt32) &&& (3 : Int32))), .unset, .unset, .unset, .unset, .unset, .unset, .unset]) rfl ?_
      show Steps p.tables e below (T20.setTop (mkF m 87 #[.val (.int p0), .val (.int p1), .val (.int p2), .val (.int bd), .val (.ref kb), .val (.int i0), .val (.int i1), .val (.int i2), .val (.int (((p0.toUInt32 >>> ((6 : Int32) &&& 31).toUInt32).toInt32) &&& (3 : Int32))), .unset, .unset, .unset, .unset, .unset, .unset, .unset] [])) _
      exact Steps.refl _)
  obtain ⟨i3, hi3, hM⟩ := Option.bind_eq_some_iff.mp hM
  have hi3 := (Option.some.inj hi3).symm
  rw [← hi3] at q25
  have q26 : Steps p.tables e below (s₁.setTop (entryFrame m #[(.int p0), (.int p1), (.int p2)] maxLocals)) (T20.setTop (mkF m 88 #[.val (.int p0), .val (.int p1), .val (.int p2), .val (.int bd), .val (.ref kb), .val (.int i0), .val (.int i1), .val (.int i2), .val (.int i3), .unset, .unset, .unset, .unset, .unset, .unset, .unset] [(.int (4 : Int32))])) := q25.trans (by
      show Steps p.tables e below (T20.setTop (mkF m 87 #[.val (.int p0), .val (.int p1), .val (.int p2), .val (.int bd), .val (.ref kb), .val (.int i0), .val (.int i1), .val (.int i2), .val (.int i3), .unset, .unset, .unset, .unset, .unset, .unset, .unset] [])) _
      refine XS.iconst X20.here hx rfl (hb hby at_87) ?_
      show Steps p.tables e below (T20.setTop (mkF m 88 #[.val (.int p0), .val (.int p1), .val (.int p2), .val (.int bd), .val (.ref kb), .val (.int i0), .val (.int i1), .val (.int i2), .val (.int i3), .unset, .unset, .unset, .unset, .unset, .unset, .unset] [(.int (4 : Int32))])) _
      exact Steps.refl _)
  obtain ⟨y27, hy27, hM⟩ := Option.bind_eq_some_iff.mp hM
  obtain ⟨T28, h28, k28, X28, e28, E28, A28, AE28, st28⟩ := newPE X20 hx hZ (hw _ (List.mem_of_getElem? (i := 0) rfl)) e20 (g := (mkF m 88 #[.val (.int p0), .val (.int p1), .val (.int p2), .val (.int bd), .val (.ref kb), .val (.int i0), .val (.int i1), .val (.int i2), .val (.int i3), .unset, .unset, .unset, .unset, .unset, .unset, .unset] [(.int (4 : Int32))])) rfl (hb hby at_88) rfl (Own.mk_some hy27).1 (cap := 4) (Own.mk_some hy27).2.1 (by decide) (by decide) (by decide) (ad := "[I") (by decide)
  obtain ⟨ib, g28⟩ : ∃ z, z = h20.size := ⟨_, rfl⟩
  rw [← g28] at A28 AE28 st28
  have ge_ib : n0 ≤ ib := Nat.le_trans Z20 (Nat.le_of_eq g28.symm)
  have ne_kb_ib : kb ≠ ib := Nat.ne_of_lt (Nat.lt_of_lt_of_le J20.lt (Nat.le_of_eq g28.symm))
  have Ikb_28 := J20.ext E28
  have Z28 : n0 ≤ h28.size := Nat.le_trans Z20 E28.1
  have I_ib : Own.IA Z h28 ib y27 := (Own.mk_some hy27).2.2 ▸ Own.IA.new A28 rfl
  have q29 : Steps p.tables e below (s₁.setTop (entryFrame m #[(.int p0), (.int p1), (.int p2)] maxLocals)) (T28.setTop (mkF m 90 #[.val (.int p0), .val (.int p1), .val (.int p2), .val (.int bd), .val (.ref kb), .val (.int i0), .val (.int i1), .val (.int i2), .val (.int i3), .unset, .unset, .unset, .unset, .unset, .unset, .unset] [(.ref ib)])) := q26.trans (st28 _ (Steps.refl _))
  have q30 : Steps p.tables e below (s₁.setTop (entryFrame m #[(.int p0), (.int p1), (.int p2)] maxLocals)) (T28.setTop (mkF m 97 #[.val (.int p0), .val (.int p1), .val (.int p2), .val (.int bd), .val (.ref kb), .val (.int i0), .val (.int i1), .val (.int i2), .val (.int i3), .val (.ref ib), .unset, .unset, .unset, .unset, .unset, .unset] [(.int i0), (.int (0 : Int32)), (.ref ib)])) := q29.trans (by
      show Steps p.tables e below (T28.setTop (mkF m 90 #[.val (.int p0), .val (.int p1), .val (.int p2), .val (.int bd), .val (.ref kb), .val (.int i0), .val (.int i1), .val (.int i2), .val (.int i3), .unset, .unset, .unset, .unset, .unset, .unset, .unset] [(.ref ib)])) _
      refine XS.astore X28.here hx rfl (hb hby at_90) rfl rfl (l' := #[.val (.int p0), .val (.int p1), .val (.int p2), .val (.int bd), .val (.ref kb), .val (.int i0), .val (.int i1), .val (.int i2), .val (.int i3), .val (.ref ib), .unset, .unset, .unset, .unset, .unset, .unset]) rfl ?_
      show Steps p.tables e below (T28.setTop (mkF m 92 #[.val (.int p0), .val (.int p1), .val (.int p2), .val (.int bd), .val (.ref kb), .val (.int i0), .val (.int i1), .val (.int i2), .val (.int i3), .val (.ref ib), .unset, .unset, .unset, .unset, .unset, .unset] [])) _
      refine XS.aload X28.here hx rfl (hb hby at_92) rfl rfl ?_
      show Steps p.tables e below (T28.setTop (mkF m 94 #[.val (.int p0), .val (.int p1), .val (.int p2), .val (.int bd), .val (.ref kb), .val (.int i0), .val (.int i1), .val (.int i2), .val (.int i3), .val (.ref ib), .unset, .unset, .unset, .unset, .unset, .unset] [(.ref ib)])) _
      refine XS.iconst X28.here hx rfl (hb hby at_94) ?_
      show Steps p.tables e below (T28.setTop (mkF m 95 #[.val (.int p0), .val (.int p1), .val (.int p2), .val (.int bd), .val (.ref kb), .val (.int i0), .val (.int i1), .val (.int i2), .val (.int i3), .val (.ref ib), .unset, .unset, .unset, .unset, .unset, .unset] [(.int (0 : Int32)), (.ref ib)])) _
      refine XS.iload X28.here hx rfl (hb hby at_95) rfl ?_
      show Steps p.tables e below (T28.setTop (mkF m 97 #[.val (.int p0), .val (.int p1), .val (.int p2), .val (.int bd), .val (.ref kb), .val (.int i0), .val (.int i1), .val (.int i2), .val (.int i3), .val (.ref ib), .unset, .unset, .unset, .unset, .unset, .unset] [(.int i0), (.int (0 : Int32)), (.ref ib)])) _
      exact Steps.refl _)
  obtain ⟨y31, hy31, hM⟩ := Option.bind_eq_some_iff.mp hM
  obtain ⟨T32, h32, X32, e32, W32, J32, st32⟩ := Own.stO X28 hx hZ e28 I_ib hy31 (g := (mkF m 97 #[.val (.int p0), .val (.int p1), .val (.int p2), .val (.int bd), .val (.ref kb), .val (.int i0), .val (.int i1), .val (.int i2), .val (.int i3), .val (.ref ib), .unset, .unset, .unset, .unset, .unset, .unset] [(.int i0), (.int (0 : Int32)), (.ref ib)])) rfl rfl (hb hby at_97)
  have N32 := Fr.snoc X32 N20 ge_ib
  have Ikb_32 := Ikb_28.other W32 ne_kb_ib
  have Z32 : n0 ≤ h32.size := Own.size_wr W32 Z28
  have q33 : Steps p.tables e below (s₁.setTop (entryFrame m #[(.int p0), (.int p1), (.int p2)] maxLocals)) (T32.setTop (mkF m 98 #[.val (.int p0), .val (.int p1), .val (.int p2), .val (.int bd), .val (.ref kb), .val (.int i0), .val (.int i1), .val (.int i2), .val (.int i3), .val (.ref ib), .unset, .unset, .unset, .unset, .unset, .unset] [])) := q30.trans (st32 _ (Steps.refl _))
  have q34 : Steps p.tables e below (s₁.setTop (entryFrame m #[(.int p0), (.int p1), (.int p2)] maxLocals)) (T32.setTop (mkF m 103 #[.val (.int p0), .val (.int p1), .val (.int p2), .val (.int bd), .val (.ref kb), .val (.int i0), .val (.int i1), .val (.int i2), .val (.int i3), .val (.ref ib), .unset, .unset, .unset, .unset, .unset, .unset] [(.int i1), (.int (1 : Int32)), (.ref ib)])) := q33.trans (by
      show Steps p.tables e below (T32.setTop (mkF m 98 #[.val (.int p0), .val (.int p1), .val (.int p2), .val (.int bd), .val (.ref kb), .val (.int i0), .val (.int i1), .val (.int i2), .val (.int i3), .val (.ref ib), .unset, .unset, .unset, .unset, .unset, .unset] [])) _
      refine XS.aload X32.here hx rfl (hb hby at_98) rfl rfl ?_
      show Steps p.tables e below (T32.setTop (mkF m 100 #[.val (.int p0), .val (.int p1), .val (.int p2), .val (.int bd), .val (.ref kb), .val (.int i0), .val (.int i1), .val (.int i2), .val (.int i3), .val (.ref ib), .unset, .unset, .unset, .unset, .unset, .unset] [(.ref ib)])) _
      refine XS.iconst X32.here hx rfl (hb hby at_100) ?_
      show Steps p.tables e below (T32.setTop (mkF m 101 #[.val (.int p0), .val (.int p1), .val (.int p2), .val (.int bd), .val (.ref kb), .val (.int i0), .val (.int i1), .val (.int i2), .val (.int i3), .val (.ref ib), .unset, .unset, .unset, .unset, .unset, .unset] [(.int (1 : Int32)), (.ref ib)])) _
      refine XS.iload X32.here hx rfl (hb hby at_101) rfl ?_
      show Steps p.tables e below (T32.setTop (mkF m 103 #[.val (.int p0), .val (.int p1), .val (.int p2), .val (.int bd), .val (.ref kb), .val (.int i0), .val (.int i1), .val (.int i2), .val (.int i3), .val (.ref ib), .unset, .unset, .unset, .unset, .unset, .unset] [(.int i1), (.int (1 : Int32)), (.ref ib)])) _
      exact Steps.refl _)
  obtain ⟨y35, hy35, hM⟩ := Option.bind_eq_some_iff.mp hM
  obtain ⟨T36, h36, X36, e36, W36, J36, st36⟩ := Own.stO X32 hx hZ e32 J32 hy35 (g := (mkF m 103 #[.val (.int p0), .val (.int p1), .val (.int p2), .val (.int bd), .val (.ref kb), .val (.int i0), .val (.int i1), .val (.int i2), .val (.int i3), .val (.ref ib), .unset, .unset, .unset, .unset, .unset, .unset] [(.int i1), (.int (1 : Int32)), (.ref ib)])) rfl rfl (hb hby at_103)
  have N36 := Fr.snoc X36 N32 ge_ib
  have Ikb_36 := Ikb_32.other W36 ne_kb_ib
  have Z36 : n0 ≤ h36.size := Own.size_wr W36 Z32
  have q37 : Steps p.tables e below (s₁.setTop (entryFrame m #[(.int p0), (.int p1), (.int p2)] maxLocals)) (T36.setTop (mkF m 104 #[.val (.int p0), .val (.int p1), .val (.int p2), .val (.int bd), .val (.ref kb), .val (.int i0), .val (.int i1), .val (.int i2), .val (.int i3), .val (.ref ib), .unset, .unset, .unset, .unset, .unset, .unset] [])) := q34.trans (st36 _ (Steps.refl _))
  have q38 : Steps p.tables e below (s₁.setTop (entryFrame m #[(.int p0), (.int p1), (.int p2)] maxLocals)) (T36.setTop (mkF m 109 #[.val (.int p0), .val (.int p1), .val (.int p2), .val (.int bd), .val (.ref kb), .val (.int i0), .val (.int i1), .val (.int i2), .val (.int i3), .val (.ref ib), .unset, .unset, .unset, .unset, .unset, .unset] [(.int i2), (.int (2 : Int32)), (.ref ib)])) := q37.trans (by
      show Steps p.tables e below (T36.setTop (mkF m 104 #[.val (.int p0), .val (.int p1), .val (.int p2), .val (.int bd), .val (.ref kb), .val (.int i0), .val (.int i1), .val (.int i2), .val (.int i3), .val (.ref ib), .unset, .unset, .unset, .unset, .unset, .unset] [])) _
      refine XS.aload X36.here hx rfl (hb hby at_104) rfl rfl ?_
      show Steps p.tables e below (T36.setTop (mkF m 106 #[.val (.int p0), .val (.int p1), .val (.int p2), .val (.int bd), .val (.ref kb), .val (.int i0), .val (.int i1), .val (.int i2), .val (.int i3), .val (.ref ib), .unset, .unset, .unset, .unset, .unset, .unset] [(.ref ib)])) _
      refine XS.iconst X36.here hx rfl (hb hby at_106) ?_
      show Steps p.tables e below (T36.setTop (mkF m 107 #[.val (.int p0), .val (.int p1), .val (.int p2), .val (.int bd), .val (.ref kb), .val (.int i0), .val (.int i1), .val (.int i2), .val (.int i3), .val (.ref ib), .unset, .unset, .unset, .unset, .unset, .unset] [(.int (2 : Int32)), (.ref ib)])) _
      refine XS.iload X36.here hx rfl (hb hby at_107) rfl ?_
      show Steps p.tables e below (T36.setTop (mkF m 109 #[.val (.int p0), .val (.int p1), .val (.int p2), .val (.int bd), .val (.ref kb), .val (.int i0), .val (.int i1), .val (.int i2), .val (.int i3), .val (.ref ib), .unset, .unset, .unset, .unset, .unset, .unset] [(.int i2), (.int (2 : Int32)), (.ref ib)])) _
      exact Steps.refl _)
  obtain ⟨y39, hy39, hM⟩ := Option.bind_eq_some_iff.mp hM
  obtain ⟨T40, h40, X40, e40, W40, J40, st40⟩ := Own.stO X36 hx hZ e36 J36 hy39 (g := (mkF m 109 #[.val (.int p0), .val (.int p1), .val (.int p2), .val (.int bd), .val (.ref kb), .val (.int i0), .val (.int i1), .val (.int i2), .val (.int i3), .val (.ref ib), .unset, .unset, .unset, .unset, .unset, .unset] [(.int i2), (.int (2 : Int32)), (.ref ib)])) rfl rfl (hb hby at_109)
  have N40 := Fr.snoc X40 N36 ge_ib
  have Ikb_40 := Ikb_36.other W40 ne_kb_ib
  have Z40 : n0 ≤ h40.size := Own.size_wr W40 Z36
  have q41 : Steps p.tables e below (s₁.setTop (entryFrame m #[(.int p0), (.int p1), (.int p2)] maxLocals)) (T40.setTop (mkF m 110 #[.val (.int p0), .val (.int p1), .val (.int p2), .val (.int bd), .val (.ref kb), .val (.int i0), .val (.int i1), .val (.int i2), .val (.int i3), .val (.ref ib), .unset, .unset, .unset, .unset, .unset, .unset] [])) := q38.trans (st40 _ (Steps.refl _))
  have q42 : Steps p.tables e below (s₁.setTop (entryFrame m #[(.int p0), (.int p1), (.int p2)] maxLocals)) (T40.setTop (mkF m 115 #[.val (.int p0), .val (.int p1), .val (.int p2), .val (.int bd), .val (.ref kb), .val (.int i0), .val (.int i1), .val (.int i2), .val (.int i3), .val (.ref ib), .unset, .unset, .unset, .unset, .unset, .unset] [(.int i3), (.int (3 : Int32)), (.ref ib)])) := q41.trans (by
      show Steps p.tables e below (T40.setTop (mkF m 110 #[.val (.int p0), .val (.int p1), .val (.int p2), .val (.int bd), .val (.ref kb), .val (.int i0), .val (.int i1), .val (.int i2), .val (.int i3), .val (.ref ib), .unset, .unset, .unset, .unset, .unset, .unset] [])) _
      refine XS.aload X40.here hx rfl (hb hby at_110) rfl rfl ?_
      show Steps p.tables e below (T40.setTop (mkF m 112 #[.val (.int p0), .val (.int p1), .val (.int p2), .val (.int bd), .val (.ref kb), .val (.int i0), .val (.int i1), .val (.int i2), .val (.int i3), .val (.ref ib), .unset, .unset, .unset, .unset, .unset, .unset] [(.ref ib)])) _
      refine XS.iconst X40.here hx rfl (hb hby at_112) ?_
      show Steps p.tables e below (T40.setTop (mkF m 113 #[.val (.int p0), .val (.int p1), .val (.int p2), .val (.int bd), .val (.ref kb), .val (.int i0), .val (.int i1), .val (.int i2), .val (.int i3), .val (.ref ib), .unset, .unset, .unset, .unset, .unset, .unset] [(.int (3 : Int32)), (.ref ib)])) _
      refine XS.iload X40.here hx rfl (hb hby at_113) rfl ?_
      show Steps p.tables e below (T40.setTop (mkF m 115 #[.val (.int p0), .val (.int p1), .val (.int p2), .val (.int bd), .val (.ref kb), .val (.int i0), .val (.int i1), .val (.int i2), .val (.int i3), .val (.ref ib), .unset, .unset, .unset, .unset, .unset, .unset] [(.int i3), (.int (3 : Int32)), (.ref ib)])) _
      exact Steps.refl _)
  obtain ⟨y43, hy43, hM⟩ := Option.bind_eq_some_iff.mp hM
  obtain ⟨T44, h44, X44, e44, W44, J44, st44⟩ := Own.stO X40 hx hZ e40 J40 hy43 (g := (mkF m 115 #[.val (.int p0), .val (.int p1), .val (.int p2), .val (.int bd), .val (.ref kb), .val (.int i0), .val (.int i1), .val (.int i2), .val (.int i3), .val (.ref ib), .unset, .unset, .unset, .unset, .unset, .unset] [(.int i3), (.int (3 : Int32)), (.ref ib)])) rfl rfl (hb hby at_115)
  have N44 := Fr.snoc X44 N40 ge_ib
  have Ikb_44 := Ikb_40.other W44 ne_kb_ib
  have Z44 : n0 ≤ h44.size := Own.size_wr W44 Z40
  have q45 : Steps p.tables e below (s₁.setTop (entryFrame m #[(.int p0), (.int p1), (.int p2)] maxLocals)) (T44.setTop (mkF m 116 #[.val (.int p0), .val (.int p1), .val (.int p2), .val (.int bd), .val (.ref kb), .val (.int i0), .val (.int i1), .val (.int i2), .val (.int i3), .val (.ref ib), .unset, .unset, .unset, .unset, .unset, .unset] [])) := q42.trans (st44 _ (Steps.refl _))
  have q46 : Steps p.tables e below (s₁.setTop (entryFrame m #[(.int p0), (.int p1), (.int p2)] maxLocals)) (T44.setTop (mkF m 120 #[.val (.int p0), .val (.int p1), .val (.int p2), .val (.int bd), .val (.ref kb), .val (.int i0), .val (.int i1), .val (.int i2), .val (.int i3), .val (.ref ib), .unset, .unset, .unset, .unset, .unset, .unset] [(.int i0), (.ref kb)])) := q45.trans (by
      show Steps p.tables e below (T44.setTop (mkF m 116 #[.val (.int p0), .val (.int p1), .val (.int p2), .val (.int bd), .val (.ref kb), .val (.int i0), .val (.int i1), .val (.int i2), .val (.int i3), .val (.ref ib), .unset, .unset, .unset, .unset, .unset, .unset] [])) _
      refine XS.aload X44.here hx rfl (hb hby at_116) rfl rfl ?_
      show Steps p.tables e below (T44.setTop (mkF m 118 #[.val (.int p0), .val (.int p1), .val (.int p2), .val (.int bd), .val (.ref kb), .val (.int i0), .val (.int i1), .val (.int i2), .val (.int i3), .val (.ref ib), .unset, .unset, .unset, .unset, .unset, .unset] [(.ref kb)])) _
      refine XS.iload X44.here hx rfl (hb hby at_118) rfl ?_
      show Steps p.tables e below (T44.setTop (mkF m 120 #[.val (.int p0), .val (.int p1), .val (.int p2), .val (.int bd), .val (.ref kb), .val (.int i0), .val (.int i1), .val (.int i2), .val (.int i3), .val (.ref ib), .unset, .unset, .unset, .unset, .unset, .unset] [(.int i0), (.ref kb)])) _
      exact Steps.refl _)
  obtain ⟨v47, hv47, hM⟩ := Option.bind_eq_some_iff.mp hM
  have q48 : Steps p.tables e below (s₁.setTop (entryFrame m #[(.int p0), (.int p1), (.int p2)] maxLocals)) (T44.setTop (mkF m 121 #[.val (.int p0), .val (.int p1), .val (.int p2), .val (.int bd), .val (.ref kb), .val (.int i0), .val (.int i1), .val (.int i2), .val (.int i3), .val (.ref ib), .unset, .unset, .unset, .unset, .unset, .unset] [(.int v47)])) := q46.trans (Own.ldO X44 hx hZ e44 Ikb_44 hv47 (g := (mkF m 120 #[.val (.int p0), .val (.int p1), .val (.int p2), .val (.int bd), .val (.ref kb), .val (.int i0), .val (.int i1), .val (.int i2), .val (.int i3), .val (.ref ib), .unset, .unset, .unset, .unset, .unset, .unset] [(.int i0), (.ref kb)])) rfl rfl (hb hby at_120) _ (Steps.refl _))
  have q49 : Steps p.tables e below (s₁.setTop (entryFrame m #[(.int p0), (.int p1), (.int p2)] maxLocals)) (T44.setTop (mkF m 127 #[.val (.int p0), .val (.int p1), .val (.int p2), .val (.int bd), .val (.ref kb), .val (.int i0), .val (.int i1), .val (.int i2), .val (.int i3), .val (.ref ib), .val (.int v47), .unset, .unset, .unset, .unset, .unset] [(.int i1), (.ref kb)])) := q48.trans (by
      show Steps p.tables e below (T44.setTop (mkF m 121 #[.val (.int p0), .val (.int p1), .val (.int p2), .val (.int bd), .val (.ref kb), .val (.int i0), .val (.int i1), .val (.int i2), .val (.int i3), .val (.ref ib), .unset, .unset, .unset, .unset, .unset, .unset] [(.int v47)])) _
      refine XS.istore X44.here hx rfl (hb hby at_121) rfl (l' := #[.val (.int p0), .val (.int p1), .val (.int p2), .val (.int bd), .val (.ref kb), .val (.int i0), .val (.int i1), .val (.int i2), .val (.int i3), .val (.ref ib), .val (.int v47), .unset, .unset, .unset, .unset, .unset]) rfl ?_
      show Steps p.tables e below (T44.setTop (mkF m 123 #[.val (.int p0), .val (.int p1), .val (.int p2), .val (.int bd), .val (.ref kb), .val (.int i0), .val (.int i1), .val (.int i2), .val (.int i3), .val (.ref ib), .val (.int v47), .unset, .unset, .unset, .unset, .unset] [])) _
      refine XS.aload X44.here hx rfl (hb hby at_123) rfl rfl ?_
      show Steps p.tables e below (T44.setTop (mkF m 125 #[.val (.int p0), .val (.int p1), .val (.int p2), .val (.int bd), .val (.ref kb), .val (.int i0), .val (.int i1), .val (.int i2), .val (.int i3), .val (.ref ib), .val (.int v47), .unset, .unset, .unset, .unset, .unset] [(.ref kb)])) _
      refine XS.iload X44.here hx rfl (hb hby at_125) rfl ?_
      show Steps p.tables e below (T44.setTop (mkF m 127 #[.val (.int p0), .val (.int p1), .val (.int p2), .val (.int bd), .val (.ref kb), .val (.int i0), .val (.int i1), .val (.int i2), .val (.int i3), .val (.ref ib), .val (.int v47), .unset, .unset, .unset, .unset, .unset] [(.int i1), (.ref kb)])) _
      exact Steps.refl _)
  obtain ⟨v50, hv50, hM⟩ := Option.bind_eq_some_iff.mp hM
  have q51 : Steps p.tables e below (s₁.setTop (entryFrame m #[(.int p0), (.int p1), (.int p2)] maxLocals)) (T44.setTop (mkF m 128 #[.val (.int p0), .val (.int p1), .val (.int p2), .val (.int bd), .val (.ref kb), .val (.int i0), .val (.int i1), .val (.int i2), .val (.int i3), .val (.ref ib), .val (.int v47), .unset, .unset, .unset, .unset, .unset] [(.int v50)])) := q49.trans (Own.ldO X44 hx hZ e44 Ikb_44 hv50 (g := (mkF m 127 #[.val (.int p0), .val (.int p1), .val (.int p2), .val (.int bd), .val (.ref kb), .val (.int i0), .val (.int i1), .val (.int i2), .val (.int i3), .val (.ref ib), .val (.int v47), .unset, .unset, .unset, .unset, .unset] [(.int i1), (.ref kb)])) rfl rfl (hb hby at_127) _ (Steps.refl _))
  have q52 : Steps p.tables e below (s₁.setTop (entryFrame m #[(.int p0), (.int p1), (.int p2)] maxLocals)) (T44.setTop (mkF m 134 #[.val (.int p0), .val (.int p1), .val (.int p2), .val (.int bd), .val (.ref kb), .val (.int i0), .val (.int i1), .val (.int i2), .val (.int i3), .val (.ref ib), .val (.int v47), .val (.int v50), .unset, .unset, .unset, .unset] [(.int i2), (.ref kb)])) := q51.trans (by
      show Steps p.tables e below (T44.setTop (mkF m 128 #[.val (.int p0), .val (.int p1), .val (.int p2), .val (.int bd), .val (.ref kb), .val (.int i0), .val (.int i1), .val (.int i2), .val (.int i3), .val (.ref ib), .val (.int v47), .unset, .unset, .unset, .unset, .unset] [(.int v50)])) _
      refine XS.istore X44.here hx rfl (hb hby at_128) rfl (l' := #[.val (.int p0), .val (.int p1), .val (.int p2), .val (.int bd), .val (.ref kb), .val (.int i0), .val (.int i1), .val (.int i2), .val (.int i3), .val (.ref ib), .val (.int v47), .val (.int v50), .unset, .unset, .unset, .unset]) rfl ?_
      show Steps p.tables e below (T44.setTop (mkF m 130 #[.val (.int p0), .val (.int p1), .val (.int p2), .val (.int bd), .val (.ref kb), .val (.int i0), .val (.int i1), .val (.int i2), .val (.int i3), .val (.ref ib), .val (.int v47), .val (.int v50), .unset, .unset, .unset, .unset] [])) _
      refine XS.aload X44.here hx rfl (hb hby at_130) rfl rfl ?_
      show Steps p.tables e below (T44.setTop (mkF m 132 #[.val (.int p0), .val (.int p1), .val (.int p2), .val (.int bd), .val (.ref kb), .val (.int i0), .val (.int i1), .val (.int i2), .val (.int i3), .val (.ref ib), .val (.int v47), .val (.int v50), .unset, .unset, .unset, .unset] [(.ref kb)])) _
      refine XS.iload X44.here hx rfl (hb hby at_132) rfl ?_
      show Steps p.tables e below (T44.setTop (mkF m 134 #[.val (.int p0), .val (.int p1), .val (.int p2), .val (.int bd), .val (.ref kb), .val (.int i0), .val (.int i1), .val (.int i2), .val (.int i3), .val (.ref ib), .val (.int v47), .val (.int v50), .unset, .unset, .unset, .unset] [(.int i2), (.ref kb)])) _
      exact Steps.refl _)
  obtain ⟨v53, hv53, hM⟩ := Option.bind_eq_some_iff.mp hM
  have q54 : Steps p.tables e below (s₁.setTop (entryFrame m #[(.int p0), (.int p1), (.int p2)] maxLocals)) (T44.setTop (mkF m 135 #[.val (.int p0), .val (.int p1), .val (.int p2), .val (.int bd), .val (.ref kb), .val (.int i0), .val (.int i1), .val (.int i2), .val (.int i3), .val (.ref ib), .val (.int v47), .val (.int v50), .unset, .unset, .unset, .unset] [(.int v53)])) := q52.trans (Own.ldO X44 hx hZ e44 Ikb_44 hv53 (g := (mkF m 134 #[.val (.int p0), .val (.int p1), .val (.int p2), .val (.int bd), .val (.ref kb), .val (.int i0), .val (.int i1), .val (.int i2), .val (.int i3), .val (.ref ib), .val (.int v47), .val (.int v50), .unset, .unset, .unset, .unset] [(.int i2), (.ref kb)])) rfl rfl (hb hby at_134) _ (Steps.refl _))
  have q55 : Steps p.tables e below (s₁.setTop (entryFrame m #[(.int p0), (.int p1), (.int p2)] maxLocals)) (T44.setTop (mkF m 141 #[.val (.int p0), .val (.int p1), .val (.int p2), .val (.int bd), .val (.ref kb), .val (.int i0), .val (.int i1), .val (.int i2), .val (.int i3), .val (.ref ib), .val (.int v47), .val (.int v50), .val (.int v53), .unset, .unset, .unset] [(.int i3), (.ref kb)])) := q54.trans (by
      show Steps p.tables e below (T44.setTop (mkF m 135 #[.val (.int p0), .val (.int p1), .val (.int p2), .val (.int bd), .val (.ref kb), .val (.int i0), .val (.int i1), .val (.int i2), .val (.int i3), .val (.ref ib), .val (.int v47), .val (.int v50), .unset, .unset, .unset, .unset] [(.int v53)])) _
      refine XS.istore X44.here hx rfl (hb hby at_135) rfl (l' := #[.val (.int p0), .val (.int p1), .val (.int p2), .val (.int bd), .val (.ref kb), .val (.int i0), .val (.int i1), .val (.int i2), .val (.int i3), .val (.ref ib), .val (.int v47), .val (.int v50), .val (.int v53), .unset, .unset, .unset]) rfl ?_
      show Steps p.tables e below (T44.setTop (mkF m 137 #[.val (.int p0), .val (.int p1), .val (.int p2), .val (.int bd), .val (.ref kb), .val (.int i0), .val (.int i1), .val (.int i2), .val (.int i3), .val (.ref ib), .val (.int v47), .val (.int v50), .val (.int v53), .unset, .unset, .unset] [])) _
      refine XS.aload X44.here hx rfl (hb hby at_137) rfl rfl ?_
      show Steps p.tables e below (T44.setTop (mkF m 139 #[.val (.int p0), .val (.int p1), .val (.int p2), .val (.int bd), .val (.ref kb), .val (.int i0), .val (.int i1), .val (.int i2), .val (.int i3), .val (.ref ib), .val (.int v47), .val (.int v50), .val (.int v53), .unset, .unset, .unset] [(.ref kb)])) _
      refine XS.iload X44.here hx rfl (hb hby at_139) rfl ?_
      show Steps p.tables e below (T44.setTop (mkF m 141 #[.val (.int p0), .val (.int p1), .val (.int p2), .val (.int bd), .val (.ref kb), .val (.int i0), .val (.int i1), .val (.int i2), .val (.int i3), .val (.ref ib), .val (.int v47), .val (.int v50), .val (.int v53), .unset, .unset, .unset] [(.int i3), (.ref kb)])) _
      exact Steps.refl _)
  obtain ⟨v56, hv56, hM⟩ := Option.bind_eq_some_iff.mp hM
  have q57 : Steps p.tables e below (s₁.setTop (entryFrame m #[(.int p0), (.int p1), (.int p2)] maxLocals)) (T44.setTop (mkF m 142 #[.val (.int p0), .val (.int p1), .val (.int p2), .val (.int bd), .val (.ref kb), .val (.int i0), .val (.int i1), .val (.int i2), .val (.int i3), .val (.ref ib), .val (.int v47), .val (.int v50), .val (.int v53), .unset, .unset, .unset] [(.int v56)])) := q55.trans (Own.ldO X44 hx hZ e44 Ikb_44 hv56 (g := (mkF m 141 #[.val (.int p0), .val (.int p1), .val (.int p2), .val (.int bd), .val (.ref kb), .val (.int i0), .val (.int i1), .val (.int i2), .val (.int i3), .val (.ref ib), .val (.int v47), .val (.int v50), .val (.int v53), .unset, .unset, .unset] [(.int i3), (.ref kb)])) rfl rfl (hb hby at_141) _ (Steps.refl _))
  have q58 : Steps p.tables e below (s₁.setTop (entryFrame m #[(.int p0), (.int p1), (.int p2)] maxLocals)) (T44.setTop (mkF m 145 #[.val (.int p0), .val (.int p1), .val (.int p2), .val (.int bd), .val (.ref kb), .val (.int i0), .val (.int i1), .val (.int i2), .val (.int i3), .val (.ref ib), .val (.int v47), .val (.int v50), .val (.int v53), .val (.int v56), .unset, .unset] [(.int (4 : Int32))])) := q57.trans (by
      show Steps p.tables e below (T44.setTop (mkF m 142 #[.val (.int p0), .val (.int p1), .val (.int p2), .val (.int bd), .val (.ref kb), .val (.int i0), .val (.int i1), .val (.int i2), .val (.int i3), .val (.ref ib), .val (.int v47), .val (.int v50), .val (.int v53), .unset, .unset, .unset] [(.int v56)])) _
      refine XS.istore X44.here hx rfl (hb hby at_142) rfl (l' := #[.val (.int p0), .val (.int p1), .val (.int p2), .val (.int bd), .val (.ref kb), .val (.int i0), .val (.int i1), .val (.int i2), .val (.int i3), .val (.ref ib), .val (.int v47), .val (.int v50), .val (.int v53), .val (.int v56), .unset, .unset]) rfl ?_
      show Steps p.tables e below (T44.setTop (mkF m 144 #[.val (.int p0), .val (.int p1), .val (.int p2), .val (.int bd), .val (.ref kb), .val (.int i0), .val (.int i1), .val (.int i2), .val (.int i3), .val (.ref ib), .val (.int v47), .val (.int v50), .val (.int v53), .val (.int v56), .unset, .unset] [])) _
      refine XS.iconst X44.here hx rfl (hb hby at_144) ?_
      show Steps p.tables e below (T44.setTop (mkF m 145 #[.val (.int p0), .val (.int p1), .val (.int p2), .val (.int bd), .val (.ref kb), .val (.int i0), .val (.int i1), .val (.int i2), .val (.int i3), .val (.ref ib), .val (.int v47), .val (.int v50), .val (.int v53), .val (.int v56), .unset, .unset] [(.int (4 : Int32))])) _
      exact Steps.refl _)
  obtain ⟨y59, hy59, hM⟩ := Option.bind_eq_some_iff.mp hM
  obtain ⟨T60, h60, k60, X60, e60, E60, A60, AE60, st60⟩ := newPE X44 hx hZ (hw _ (List.mem_of_getElem? (i := 0) rfl)) e44 (g := (mkF m 145 #[.val (.int p0), .val (.int p1), .val (.int p2), .val (.int bd), .val (.ref kb), .val (.int i0), .val (.int i1), .val (.int i2), .val (.int i3), .val (.ref ib), .val (.int v47), .val (.int v50), .val (.int v53), .val (.int v56), .unset, .unset] [(.int (4 : Int32))])) rfl (hb hby at_145) rfl (Own.mk_some hy59).1 (cap := 4) (Own.mk_some hy59).2.1 (by decide) (by decide) (by decide) (ad := "[I") (by decide)
  obtain ⟨eb, g60⟩ : ∃ z, z = h44.size := ⟨_, rfl⟩
  rw [← g60] at A60 AE60 st60
  have ge_eb : n0 ≤ eb := Nat.le_trans Z44 (Nat.le_of_eq g60.symm)
  have ne_kb_eb : kb ≠ eb := Nat.ne_of_lt (Nat.lt_of_lt_of_le Ikb_44.lt (Nat.le_of_eq g60.symm))
  have ne_ib_eb : ib ≠ eb := Nat.ne_of_lt (Nat.lt_of_lt_of_le J44.lt (Nat.le_of_eq g60.symm))
  have Ikb_60 := Ikb_44.ext E60
  have Iib_60 := J44.ext E60
  have Z60 : n0 ≤ h60.size := Nat.le_trans Z44 E60.1
  have I_eb : Own.IA Z h60 eb y59 := (Own.mk_some hy59).2.2 ▸ Own.IA.new A60 rfl
  have q61 : Steps p.tables e below (s₁.setTop (entryFrame m #[(.int p0), (.int p1), (.int p2)] maxLocals)) (T60.setTop (mkF m 147 #[.val (.int p0), .val (.int p1), .val (.int p2), .val (.int bd), .val (.ref kb), .val (.int i0), .val (.int i1), .val (.int i2), .val (.int i3), .val (.ref ib), .val (.int v47), .val (.int v50), .val (.int v53), .val (.int v56), .unset, .unset] [(.ref eb)])) := q58.trans (st60 _ (Steps.refl _))
  have q62 : Steps p.tables e below (s₁.setTop (entryFrame m #[(.int p0), (.int p1), (.int p2)] maxLocals)) (T60.setTop (mkF m 162 #[.val (.int p0), .val (.int p1), .val (.int p2), .val (.int bd), .val (.ref kb), .val (.int i0), .val (.int i1), .val (.int i2), .val (.int i3), .val (.ref ib), .val (.int v47), .val (.int v50), .val (.int v53), .val (.int v56), .val (.ref eb), .unset] [(.int v47), (.int (0 : Int32)), (.int v56), (.int v53), (.int v50), (.int v47), (.ref eb)])) := q61.trans (by
      show Steps p.tables e below (T60.setTop (mkF m 147 #[.val (.int p0), .val (.int p1), .val (.int p2), .val (.int bd), .val (.ref kb), .val (.int i0), .val (.int i1), .val (.int i2), .val (.int i3), .val (.ref ib), .val (.int v47), .val (.int v50), .val (.int v53), .val (.int v56), .unset, .unset] [(.ref eb)])) _
      refine XS.astore X60.here hx rfl (hb hby at_147) rfl rfl (l' := #[.val (.int p0), .val (.int p1), .val (.int p2), .val (.int bd), .val (.ref kb), .val (.int i0), .val (.int i1), .val (.int i2), .val (.int i3), .val (.ref ib), .val (.int v47), .val (.int v50), .val (.int v53), .val (.int v56), .val (.ref eb), .unset]) rfl ?_
      show Steps p.tables e below (T60.setTop (mkF m 149 #[.val (.int p0), .val (.int p1), .val (.int p2), .val (.int bd), .val (.ref kb), .val (.int i0), .val (.int i1), .val (.int i2), .val (.int i3), .val (.ref ib), .val (.int v47), .val (.int v50), .val (.int v53), .val (.int v56), .val (.ref eb), .unset] [])) _
      refine XS.aload X60.here hx rfl (hb hby at_149) rfl rfl ?_
      show Steps p.tables e below (T60.setTop (mkF m 151 #[.val (.int p0), .val (.int p1), .val (.int p2), .val (.int bd), .val (.ref kb), .val (.int i0), .val (.int i1), .val (.int i2), .val (.int i3), .val (.ref ib), .val (.int v47), .val (.int v50), .val (.int v53), .val (.int v56), .val (.ref eb), .unset] [(.ref eb)])) _
      refine XS.iload X60.here hx rfl (hb hby at_151) rfl ?_
      show Steps p.tables e below (T60.setTop (mkF m 153 #[.val (.int p0), .val (.int p1), .val (.int p2), .val (.int bd), .val (.ref kb), .val (.int i0), .val (.int i1), .val (.int i2), .val (.int i3), .val (.ref ib), .val (.int v47), .val (.int v50), .val (.int v53), .val (.int v56), .val (.ref eb), .unset] [(.int v47), (.ref eb)])) _
      refine XS.iload X60.here hx rfl (hb hby at_153) rfl ?_
      show Steps p.tables e below (T60.setTop (mkF m 155 #[.val (.int p0), .val (.int p1), .val (.int p2), .val (.int bd), .val (.ref kb), .val (.int i0), .val (.int i1), .val (.int i2), .val (.int i3), .val (.ref ib), .val (.int v47), .val (.int v50), .val (.int v53), .val (.int v56), .val (.ref eb), .unset] [(.int v50), (.int v47), (.ref eb)])) _
      refine XS.iload X60.here hx rfl (hb hby at_155) rfl ?_
      show Steps p.tables e below (T60.setTop (mkF m 157 #[.val (.int p0), .val (.int p1), .val (.int p2), .val (.int bd), .val (.ref kb), .val (.int i0), .val (.int i1), .val (.int i2), .val (.int i3), .val (.ref ib), .val (.int v47), .val (.int v50), .val (.int v53), .val (.int v56), .val (.ref eb), .unset] [(.int v53), (.int v50), (.int v47), (.ref eb)])) _
      refine XS.iload X60.here hx rfl (hb hby at_157) rfl ?_
      show Steps p.tables e below (T60.setTop (mkF m 159 #[.val (.int p0), .val (.int p1), .val (.int p2), .val (.int bd), .val (.ref kb), .val (.int i0), .val (.int i1), .val (.int i2), .val (.int i3), .val (.ref ib), .val (.int v47), .val (.int v50), .val (.int v53), .val (.int v56), .val (.ref eb), .unset] [(.int v56), (.int v53), (.int v50), (.int v47), (.ref eb)])) _
      refine XS.iconst X60.here hx rfl (hb hby at_159) ?_
      show Steps p.tables e below (T60.setTop (mkF m 160 #[.val (.int p0), .val (.int p1), .val (.int p2), .val (.int bd), .val (.ref kb), .val (.int i0), .val (.int i1), .val (.int i2), .val (.int i3), .val (.ref ib), .val (.int v47), .val (.int v50), .val (.int v53), .val (.int v56), .val (.ref eb), .unset] [(.int (0 : Int32)), (.int v56), (.int v53), (.int v50), (.int v47), (.ref eb)])) _
      refine XS.iload X60.here hx rfl (hb hby at_160) rfl ?_
      show Steps p.tables e below (T60.setTop (mkF m 162 #[.val (.int p0), .val (.int p1), .val (.int p2), .val (.int bd), .val (.ref kb), .val (.int i0), .val (.int i1), .val (.int i2), .val (.int i3), .val (.ref ib), .val (.int v47), .val (.int v50), .val (.int v53), .val (.int v56), .val (.ref eb), .unset] [(.int v47), (.int (0 : Int32)), (.int v56), (.int v53), (.int v50), (.int v47), (.ref eb)])) _
      exact Steps.refl _)
  obtain ⟨_, _, ⟨T63, L63, k63, n63⟩, -, X63, ⟨Lc63, hQ63, l63, y63, z63⟩, st63⟩ := Jvm.LawKit.callS X60 hx (y := (⟨"com/example/pareto_workflow_scheduler/paretoworkflowscheduler/algorithm/SortsByKeyPinLaw", "pos", "(IIIIII)I"⟩ : MethodName)) hown (mvT hZ (hw _ (List.mem_of_getElem? (i := 1) rfl))) (mvT hZ (hw _ (List.mem_of_getElem? (i := 2) rfl))) (mvT hZ (hw _ (List.mem_of_getElem? (i := 3) rfl))) (mvT hZ (hw _ (List.mem_of_getElem? (i := 4) rfl))) (by decide) (backOf (W := 1) (rm2 l Z a0 hw [] v47 v50 v53 v56 (0 : Int32) v47 h60 n0 Z60) hZ (hw _ (List.mem_of_getElem? (i := 4) rfl)) (hw _ (List.mem_of_getElem? (i := 3) rfl)) (by decide) (by decide)) (g := (mkF m 162 #[.val (.int p0), .val (.int p1), .val (.int p2), .val (.int bd), .val (.ref kb), .val (.int i0), .val (.int i1), .val (.int i2), .val (.int i3), .val (.ref ib), .val (.int v47), .val (.int v50), .val (.int v53), .val (.int v56), .val (.ref eb), .unset] [(.int v47), (.int (0 : Int32)), (.int v56), (.int v53), (.int v50), (.int v47), (.ref eb)])) rfl (by rw [hml]; rfl) (argsL := [(.int v47), (.int v50), (.int v53), (.int v56), (.int (0 : Int32)), (.int v47)]) (rest := [(.ref eb)]) (lenOf pd_1 rfl) rfl (by show 2 * 0 + _ ≤ _; exact Nat.le_of_eq rfl) (hb hby at_162) (fun _ _ => ⟨rfl, e60, (by decide : 3 + 0 ≤ _), (by decide : 12 + 0 ≤ _)⟩)
  dsimp only [Pt.U, Pt.locs, Pt.cells, Pt.slots] at X63 l63 y63 z63 st63 hQ63
  subst l63 y63 z63
  obtain ⟨rfl, N63q, e63⟩ := hQ63
  have N63 := Fr.app N44 N63q
  have q64 : Steps p.tables e below (s₁.setTop (entryFrame m #[(.int p0), (.int p1), (.int p2)] maxLocals)) (T63.setTop (mkF m 165 #[.val (.int p0), .val (.int p1), .val (.int p2), .val (.int bd), .val (.ref kb), .val (.int i0), .val (.int i1), .val (.int i2), .val (.int i3), .val (.ref ib), .val (.int v47), .val (.int v50), .val (.int v53), .val (.int v56), .val (.ref eb), .unset] [(.int (F2 v47 v50 v53 v56 (0 : Int32) v47)), (.ref eb)])) := q62.trans (st63 _ (Steps.refl _))
  have q65 : Steps p.tables e below (s₁.setTop (entryFrame m #[(.int p0), (.int p1), (.int p2)] maxLocals)) (T63.setTop (mkF m 167 #[.val (.int p0), .val (.int p1), .val (.int p2), .val (.int bd), .val (.ref kb), .val (.int i0), .val (.int i1), .val (.int i2), .val (.int i3), .val (.ref ib), .val (.int v47), .val (.int v50), .val (.int v53), .val (.int v56), .val (.ref eb), .unset] [(.int i0), (.int (F2 v47 v50 v53 v56 (0 : Int32) v47)), (.ref eb)])) := q64.trans (by
      show Steps p.tables e below (T63.setTop (mkF m 165 #[.val (.int p0), .val (.int p1), .val (.int p2), .val (.int bd), .val (.ref kb), .val (.int i0), .val (.int i1), .val (.int i2), .val (.int i3), .val (.ref ib), .val (.int v47), .val (.int v50), .val (.int v53), .val (.int v56), .val (.ref eb), .unset] [(.int (F2 v47 v50 v53 v56 (0 : Int32) v47)), (.ref eb)])) _
      refine XS.iload X63.here hx rfl (hb hby at_165) rfl ?_
      show Steps p.tables e below (T63.setTop (mkF m 167 #[.val (.int p0), .val (.int p1), .val (.int p2), .val (.int bd), .val (.ref kb), .val (.int i0), .val (.int i1), .val (.int i2), .val (.int i3), .val (.ref ib), .val (.int v47), .val (.int v50), .val (.int v53), .val (.int v56), .val (.ref eb), .unset] [(.int i0), (.int (F2 v47 v50 v53 v56 (0 : Int32) v47)), (.ref eb)])) _
      exact Steps.refl _)
  obtain ⟨y66, hy66, hM⟩ := Option.bind_eq_some_iff.mp hM
  obtain ⟨T67, h67, X67, e67, W67, J67, st67⟩ := Own.stO X63 hx hZ e63 I_eb hy66 (g := (mkF m 167 #[.val (.int p0), .val (.int p1), .val (.int p2), .val (.int bd), .val (.ref kb), .val (.int i0), .val (.int i1), .val (.int i2), .val (.int i3), .val (.ref ib), .val (.int v47), .val (.int v50), .val (.int v53), .val (.int v56), .val (.ref eb), .unset] [(.int i0), (.int (F2 v47 v50 v53 v56 (0 : Int32) v47)), (.ref eb)])) rfl rfl (hb hby at_167)
  have N67 := Fr.snoc X67 N63 ge_eb
  have Ikb_67 := Ikb_60.other W67 ne_kb_eb
  have Iib_67 := Iib_60.other W67 ne_ib_eb
  have Z67 : n0 ≤ h67.size := Own.size_wr W67 Z60
  have q68 : Steps p.tables e below (s₁.setTop (entryFrame m #[(.int p0), (.int p1), (.int p2)] maxLocals)) (T67.setTop (mkF m 168 #[.val (.int p0), .val (.int p1), .val (.int p2), .val (.int bd), .val (.ref kb), .val (.int i0), .val (.int i1), .val (.int i2), .val (.int i3), .val (.ref ib), .val (.int v47), .val (.int v50), .val (.int v53), .val (.int v56), .val (.ref eb), .unset] [])) := q65.trans (st67 _ (Steps.refl _))
  have q69 : Steps p.tables e below (s₁.setTop (entryFrame m #[(.int p0), (.int p1), (.int p2)] maxLocals)) (T67.setTop (mkF m 181 #[.val (.int p0), .val (.int p1), .val (.int p2), .val (.int bd), .val (.ref kb), .val (.int i0), .val (.int i1), .val (.int i2), .val (.int i3), .val (.ref ib), .val (.int v47), .val (.int v50), .val (.int v53), .val (.int v56), .val (.ref eb), .unset] [(.int v50), (.int (1 : Int32)), (.int v56), (.int v53), (.int v50), (.int v47), (.ref eb)])) := q68.trans (by
      show Steps p.tables e below (T67.setTop (mkF m 168 #[.val (.int p0), .val (.int p1), .val (.int p2), .val (.int bd), .val (.ref kb), .val (.int i0), .val (.int i1), .val (.int i2), .val (.int i3), .val (.ref ib), .val (.int v47), .val (.int v50), .val (.int v53), .val (.int v56), .val (.ref eb), .unset] [])) _
      refine XS.aload X67.here hx rfl (hb hby at_168) rfl rfl ?_
      show Steps p.tables e below (T67.setTop (mkF m 170 #[.val (.int p0), .val (.int p1), .val (.int p2), .val (.int bd), .val (.ref kb), .val (.int i0), .val (.int i1), .val (.int i2), .val (.int i3), .val (.ref ib), .val (.int v47), .val (.int v50), .val (.int v53), .val (.int v56), .val (.ref eb), .unset] [(.ref eb)])) _
      refine XS.iload X67.here hx rfl (hb hby at_170) rfl ?_
      show Steps p.tables e below (T67.setTop (mkF m 172 #[.val (.int p0), .val (.int p1), .val (.int p2), .val (.int bd), .val (.ref kb), .val (.int i0), .val (.int i1), .val (.int i2), .val (.int i3), .val (.ref ib), .val (.int v47), .val (.int v50), .val (.int v53), .val (.int v56), .val (.ref eb), .unset] [(.int v47), (.ref eb)])) _
      refine XS.iload X67.here hx rfl (hb hby at_172) rfl ?_
      show Steps p.tables e below (T67.setTop (mkF m 174 #[.val (.int p0), .val (.int p1), .val (.int p2), .val (.int bd), .val (.ref kb), .val (.int i0), .val (.int i1), .val (.int i2), .val (.int i3), .val (.ref ib), .val (.int v47), .val (.int v50), .val (.int v53), .val (.int v56), .val (.ref eb), .unset] [(.int v50), (.int v47), (.ref eb)])) _
      refine XS.iload X67.here hx rfl (hb hby at_174) rfl ?_
      show Steps p.tables e below (T67.setTop (mkF m 176 #[.val (.int p0), .val (.int p1), .val (.int p2), .val (.int bd), .val (.ref kb), .val (.int i0), .val (.int i1), .val (.int i2), .val (.int i3), .val (.ref ib), .val (.int v47), .val (.int v50), .val (.int v53), .val (.int v56), .val (.ref eb), .unset] [(.int v53), (.int v50), (.int v47), (.ref eb)])) _
      refine XS.iload X67.here hx rfl (hb hby at_176) rfl ?_
      show Steps p.tables e below (T67.setTop (mkF m 178 #[.val (.int p0), .val (.int p1), .val (.int p2), .val (.int bd), .val (.ref kb), .val (.int i0), .val (.int i1), .val (.int i2), .val (.int i3), .val (.ref ib), .val (.int v47), .val (.int v50), .val (.int v53), .val (.int v56), .val (.ref eb), .unset] [(.int v56), (.int v53), (.int v50), (.int v47), (.ref eb)])) _
      refine XS.iconst X67.here hx rfl (hb hby at_178) ?_
      show Steps p.tables e below (T67.setTop (mkF m 179 #[.val (.int p0), .val (.int p1), .val (.int p2), .val (.int bd), .val (.ref kb), .val (.int i0), .val (.int i1), .val (.int i2), .val (.int i3), .val (.ref ib), .val (.int v47), .val (.int v50), .val (.int v53), .val (.int v56), .val (.ref eb), .unset] [(.int (1 : Int32)), (.int v56), (.int v53), (.int v50), (.int v47), (.ref eb)])) _
      refine XS.iload X67.here hx rfl (hb hby at_179) rfl ?_
      show Steps p.tables e below (T67.setTop (mkF m 181 #[.val (.int p0), .val (.int p1), .val (.int p2), .val (.int bd), .val (.ref kb), .val (.int i0), .val (.int i1), .val (.int i2), .val (.int i3), .val (.ref ib), .val (.int v47), .val (.int v50), .val (.int v53), .val (.int v56), .val (.ref eb), .unset] [(.int v50), (.int (1 : Int32)), (.int v56), (.int v53), (.int v50), (.int v47), (.ref eb)])) _
      exact Steps.refl _)
  obtain ⟨_, _, ⟨T70, L70, k70, n70⟩, -, X70, ⟨Lc70, hQ70, l70, y70, z70⟩, st70⟩ := Jvm.LawKit.callS X67 hx (y := (⟨"com/example/pareto_workflow_scheduler/paretoworkflowscheduler/algorithm/SortsByKeyPinLaw", "pos", "(IIIIII)I"⟩ : MethodName)) hown (mvT hZ (hw _ (List.mem_of_getElem? (i := 1) rfl))) (mvT hZ (hw _ (List.mem_of_getElem? (i := 2) rfl))) (mvT hZ (hw _ (List.mem_of_getElem? (i := 3) rfl))) (mvT hZ (hw _ (List.mem_of_getElem? (i := 4) rfl))) (by decide) (backOf (W := 1) (rm2 l Z a0 hw [] v47 v50 v53 v56 (1 : Int32) v50 h67 n0 Z67) hZ (hw _ (List.mem_of_getElem? (i := 4) rfl)) (hw _ (List.mem_of_getElem? (i := 3) rfl)) (by decide) (by decide)) (g := (mkF m 181 #[.val (.int p0), .val (.int p1), .val (.int p2), .val (.int bd), .val (.ref kb), .val (.int i0), .val (.int i1), .val (.int i2), .val (.int i3), .val (.ref ib), .val (.int v47), .val (.int v50), .val (.int v53), .val (.int v56), .val (.ref eb), .unset] [(.int v50), (.int (1 : Int32)), (.int v56), (.int v53), (.int v50), (.int v47), (.ref eb)])) rfl (by rw [hml]; rfl) (argsL := [(.int v47), (.int v50), (.int v53), (.int v56), (.int (1 : Int32)), (.int v50)]) (rest := [(.ref eb)]) (lenOf pd_1 rfl) rfl (by show 2 * 0 + _ ≤ _; exact Nat.le_of_eq rfl) (hb hby at_181) (fun _ _ => ⟨rfl, e67, (by decide : 3 + 0 ≤ _), (by decide : 12 + 0 ≤ _)⟩)
  dsimp only [Pt.U, Pt.locs, Pt.cells, Pt.slots] at X70 l70 y70 z70 st70 hQ70
  subst l70 y70 z70
  obtain ⟨rfl, N70q, e70⟩ := hQ70
  have N70 := Fr.app N67 N70q
  have q71 : Steps p.tables e below (s₁.setTop (entryFrame m #[(.int p0), (.int p1), (.int p2)] maxLocals)) (T70.setTop (mkF m 184 #[.val (.int p0), .val (.int p1), .val (.int p2), .val (.int bd), .val (.ref kb), .val (.int i0), .val (.int i1), .val (.int i2), .val (.int i3), .val (.ref ib), .val (.int v47), .val (.int v50), .val (.int v53), .val (.int v56), .val (.ref eb), .unset] [(.int (F2 v47 v50 v53 v56 (1 : Int32) v50)), (.ref eb)])) := q69.trans (st70 _ (Steps.refl _))
  have q72 : Steps p.tables e below (s₁.setTop (entryFrame m #[(.int p0), (.int p1), (.int p2)] maxLocals)) (T70.setTop (mkF m 186 #[.val (.int p0), .val (.int p1), .val (.int p2), .val (.int bd), .val (.ref kb), .val (.int i0), .val (.int i1), .val (.int i2), .val (.int i3), .val (.ref ib), .val (.int v47), .val (.int v50), .val (.int v53), .val (.int v56), .val (.ref eb), .unset] [(.int i1), (.int (F2 v47 v50 v53 v56 (1 : Int32) v50)), (.ref eb)])) := q71.trans (by
      show Steps p.tables e below (T70.setTop (mkF m 184 #[.val (.int p0), .val (.int p1), .val (.int p2), .val (.int bd), .val (.ref kb), .val (.int i0), .val (.int i1), .val (.int i2), .val (.int i3), .val (.ref ib), .val (.int v47), .val (.int v50), .val (.int v53), .val (.int v56), .val (.ref eb), .unset] [(.int (F2 v47 v50 v53 v56 (1 : Int32) v50)), (.ref eb)])) _
      refine XS.iload X70.here hx rfl (hb hby at_184) rfl ?_
      show Steps p.tables e below (T70.setTop (mkF m 186 #[.val (.int p0), .val (.int p1), .val (.int p2), .val (.int bd), .val (.ref kb), .val (.int i0), .val (.int i1), .val (.int i2), .val (.int i3), .val (.ref ib), .val (.int v47), .val (.int v50), .val (.int v53), .val (.int v56), .val (.ref eb), .unset] [(.int i1), (.int (F2 v47 v50 v53 v56 (1 : Int32) v50)), (.ref eb)])) _
      exact Steps.refl _)
  obtain ⟨y73, hy73, hM⟩ := Option.bind_eq_some_iff.mp hM
  obtain ⟨T74, h74, X74, e74, W74, J74, st74⟩ := Own.stO X70 hx hZ e70 J67 hy73 (g := (mkF m 186 #[.val (.int p0), .val (.int p1), .val (.int p2), .val (.int bd), .val (.ref kb), .val (.int i0), .val (.int i1), .val (.int i2), .val (.int i3), .val (.ref ib), .val (.int v47), .val (.int v50), .val (.int v53), .val (.int v56), .val (.ref eb), .unset] [(.int i1), (.int (F2 v47 v50 v53 v56 (1 : Int32) v50)), (.ref eb)])) rfl rfl (hb hby at_186)
  have N74 := Fr.snoc X74 N70 ge_eb
  have Ikb_74 := Ikb_67.other W74 ne_kb_eb
  have Iib_74 := Iib_67.other W74 ne_ib_eb
  have Z74 : n0 ≤ h74.size := Own.size_wr W74 Z67
  have q75 : Steps p.tables e below (s₁.setTop (entryFrame m #[(.int p0), (.int p1), (.int p2)] maxLocals)) (T74.setTop (mkF m 187 #[.val (.int p0), .val (.int p1), .val (.int p2), .val (.int bd), .val (.ref kb), .val (.int i0), .val (.int i1), .val (.int i2), .val (.int i3), .val (.ref ib), .val (.int v47), .val (.int v50), .val (.int v53), .val (.int v56), .val (.ref eb), .unset] [])) := q72.trans (st74 _ (Steps.refl _))
  have q76 : Steps p.tables e below (s₁.setTop (entryFrame m #[(.int p0), (.int p1), (.int p2)] maxLocals)) (T74.setTop (mkF m 200 #[.val (.int p0), .val (.int p1), .val (.int p2), .val (.int bd), .val (.ref kb), .val (.int i0), .val (.int i1), .val (.int i2), .val (.int i3), .val (.ref ib), .val (.int v47), .val (.int v50), .val (.int v53), .val (.int v56), .val (.ref eb), .unset] [(.int v53), (.int (2 : Int32)), (.int v56), (.int v53), (.int v50), (.int v47), (.ref eb)])) := q75.trans (by
      show Steps p.tables e below (T74.setTop (mkF m 187 #[.val (.int p0), .val (.int p1), .val (.int p2), .val (.int bd), .val (.ref kb), .val (.int i0), .val (.int i1), .val (.int i2), .val (.int i3), .val (.ref ib), .val (.int v47), .val (.int v50), .val (.int v53), .val (.int v56), .val (.ref eb), .unset] [])) _
      refine XS.aload X74.here hx rfl (hb hby at_187) rfl rfl ?_
      show Steps p.tables e below (T74.setTop (mkF m 189 #[.val (.int p0), .val (.int p1), .val (.int p2), .val (.int bd), .val (.ref kb), .val (.int i0), .val (.int i1), .val (.int i2), .val (.int i3), .val (.ref ib), .val (.int v47), .val (.int v50), .val (.int v53), .val (.int v56), .val (.ref eb), .unset] [(.ref eb)])) _
      refine XS.iload X74.here hx rfl (hb hby at_189) rfl ?_
      show Steps p.tables e below (T74.setTop (mkF m 191 #[.val (.int p0), .val (.int p1), .val (.int p2), .val (.int bd), .val (.ref kb), .val (.int i0), .val (.int i1), .val (.int i2), .val (.int i3), .val (.ref ib), .val (.int v47), .val (.int v50), .val (.int v53), .val (.int v56), .val (.ref eb), .unset] [(.int v47), (.ref eb)])) _
      refine XS.iload X74.here hx rfl (hb hby at_191) rfl ?_
      show Steps p.tables e below (T74.setTop (mkF m 193 #[.val (.int p0), .val (.int p1), .val (.int p2), .val (.int bd), .val (.ref kb), .val (.int i0), .val (.int i1), .val (.int i2), .val (.int i3), .val (.ref ib), .val (.int v47), .val (.int v50), .val (.int v53), .val (.int v56), .val (.ref eb), .unset] [(.int v50), (.int v47), (.ref eb)])) _
      refine XS.iload X74.here hx rfl (hb hby at_193) rfl ?_
      show Steps p.tables e below (T74.setTop (mkF m 195 #[.val (.int p0), .val (.int p1), .val (.int p2), .val (.int bd), .val (.ref kb), .val (.int i0), .val (.int i1), .val (.int i2), .val (.int i3), .val (.ref ib), .val (.int v47), .val (.int v50), .val (.int v53), .val (.int v56), .val (.ref eb), .unset] [(.int v53), (.int v50), (.int v47), (.ref eb)])) _
      refine XS.iload X74.here hx rfl (hb hby at_195) rfl ?_
      show Steps p.tables e below (T74.setTop (mkF m 197 #[.val (.int p0), .val (.int p1), .val (.int p2), .val (.int bd), .val (.ref kb), .val (.int i0), .val (.int i1), .val (.int i2), .val (.int i3), .val (.ref ib), .val (.int v47), .val (.int v50), .val (.int v53), .val (.int v56), .val (.ref eb), .unset] [(.int v56), (.int v53), (.int v50), (.int v47), (.ref eb)])) _
      refine XS.iconst X74.here hx rfl (hb hby at_197) ?_
      show Steps p.tables e below (T74.setTop (mkF m 198 #[.val (.int p0), .val (.int p1), .val (.int p2), .val (.int bd), .val (.ref kb), .val (.int i0), .val (.int i1), .val (.int i2), .val (.int i3), .val (.ref ib), .val (.int v47), .val (.int v50), .val (.int v53), .val (.int v56), .val (.ref eb), .unset] [(.int (2 : Int32)), (.int v56), (.int v53), (.int v50), (.int v47), (.ref eb)])) _
      refine XS.iload X74.here hx rfl (hb hby at_198) rfl ?_
      show Steps p.tables e below (T74.setTop (mkF m 200 #[.val (.int p0), .val (.int p1), .val (.int p2), .val (.int bd), .val (.ref kb), .val (.int i0), .val (.int i1), .val (.int i2), .val (.int i3), .val (.ref ib), .val (.int v47), .val (.int v50), .val (.int v53), .val (.int v56), .val (.ref eb), .unset] [(.int v53), (.int (2 : Int32)), (.int v56), (.int v53), (.int v50), (.int v47), (.ref eb)])) _
      exact Steps.refl _)
  obtain ⟨_, _, ⟨T77, L77, k77, n77⟩, -, X77, ⟨Lc77, hQ77, l77, y77, z77⟩, st77⟩ := Jvm.LawKit.callS X74 hx (y := (⟨"com/example/pareto_workflow_scheduler/paretoworkflowscheduler/algorithm/SortsByKeyPinLaw", "pos", "(IIIIII)I"⟩ : MethodName)) hown (mvT hZ (hw _ (List.mem_of_getElem? (i := 1) rfl))) (mvT hZ (hw _ (List.mem_of_getElem? (i := 2) rfl))) (mvT hZ (hw _ (List.mem_of_getElem? (i := 3) rfl))) (mvT hZ (hw _ (List.mem_of_getElem? (i := 4) rfl))) (by decide) (backOf (W := 1) (rm2 l Z a0 hw [] v47 v50 v53 v56 (2 : Int32) v53 h74 n0 Z74) hZ (hw _ (List.mem_of_getElem? (i := 4) rfl)) (hw _ (List.mem_of_getElem? (i := 3) rfl)) (by decide) (by decide)) (g := (mkF m 200 #[.val (.int p0), .val (.int p1), .val (.int p2), .val (.int bd), .val (.ref kb), .val (.int i0), .val (.int i1), .val (.int i2), .val (.int i3), .val (.ref ib), .val (.int v47), .val (.int v50), .val (.int v53), .val (.int v56), .val (.ref eb), .unset] [(.int v53), (.int (2 : Int32)), (.int v56), (.int v53), (.int v50), (.int v47), (.ref eb)])) rfl (by rw [hml]; rfl) (argsL := [(.int v47), (.int v50), (.int v53), (.int v56), (.int (2 : Int32)), (.int v53)]) (rest := [(.ref eb)]) (lenOf pd_1 rfl) rfl (by show 2 * 0 + _ ≤ _; exact Nat.le_of_eq rfl) (hb hby at_200) (fun _ _ => ⟨rfl, e74, (by decide : 3 + 0 ≤ _), (by decide : 12 + 0 ≤ _)⟩)
  dsimp only [Pt.U, Pt.locs, Pt.cells, Pt.slots] at X77 l77 y77 z77 st77 hQ77
  subst l77 y77 z77
  obtain ⟨rfl, N77q, e77⟩ := hQ77
  have N77 := Fr.app N74 N77q
  have q78 : Steps p.tables e below (s₁.setTop (entryFrame m #[(.int p0), (.int p1), (.int p2)] maxLocals)) (T77.setTop (mkF m 203 #[.val (.int p0), .val (.int p1), .val (.int p2), .val (.int bd), .val (.ref kb), .val (.int i0), .val (.int i1), .val (.int i2), .val (.int i3), .val (.ref ib), .val (.int v47), .val (.int v50), .val (.int v53), .val (.int v56), .val (.ref eb), .unset] [(.int (F2 v47 v50 v53 v56 (2 : Int32) v53)), (.ref eb)])) := q76.trans (st77 _ (Steps.refl _))
  have q79 : Steps p.tables e below (s₁.setTop (entryFrame m #[(.int p0), (.int p1), (.int p2)] maxLocals)) (T77.setTop (mkF m 205 #[.val (.int p0), .val (.int p1), .val (.int p2), .val (.int bd), .val (.ref kb), .val (.int i0), .val (.int i1), .val (.int i2), .val (.int i3), .val (.ref ib), .val (.int v47), .val (.int v50), .val (.int v53), .val (.int v56), .val (.ref eb), .unset] [(.int i2), (.int (F2 v47 v50 v53 v56 (2 : Int32) v53)), (.ref eb)])) := q78.trans (by
      show Steps p.tables e below (T77.setTop (mkF m 203 #[.val (.int p0), .val (.int p1), .val (.int p2), .val (.int bd), .val (.ref kb), .val (.int i0), .val (.int i1), .val (.int i2), .val (.int i3), .val (.ref ib), .val (.int v47), .val (.int v50), .val (.int v53), .val (.int v56), .val (.ref eb), .unset] [(.int (F2 v47 v50 v53 v56 (2 : Int32) v53)), (.ref eb)])) _
      refine XS.iload X77.here hx rfl (hb hby at_203) rfl ?_
      show Steps p.tables e below (T77.setTop (mkF m 205 #[.val (.int p0), .val (.int p1), .val (.int p2), .val (.int bd), .val (.ref kb), .val (.int i0), .val (.int i1), .val (.int i2), .val (.int i3), .val (.ref ib), .val (.int v47), .val (.int v50), .val (.int v53), .val (.int v56), .val (.ref eb), .unset] [(.int i2), (.int (F2 v47 v50 v53 v56 (2 : Int32) v53)), (.ref eb)])) _
      exact Steps.refl _)
  obtain ⟨y80, hy80, hM⟩ := Option.bind_eq_some_iff.mp hM
  obtain ⟨T81, h81, X81, e81, W81, J81, st81⟩ := Own.stO X77 hx hZ e77 J74 hy80 (g := (mkF m 205 #[.val (.int p0), .val (.int p1), .val (.int p2), .val (.int bd), .val (.ref kb), .val (.int i0), .val (.int i1), .val (.int i2), .val (.int i3), .val (.ref ib), .val (.int v47), .val (.int v50), .val (.int v53), .val (.int v56), .val (.ref eb), .unset] [(.int i2), (.int (F2 v47 v50 v53 v56 (2 : Int32) v53)), (.ref eb)])) rfl rfl (hb hby at_205)
  have N81 := Fr.snoc X81 N77 ge_eb
  have Ikb_81 := Ikb_74.other W81 ne_kb_eb
  have Iib_81 := Iib_74.other W81 ne_ib_eb
  have Z81 : n0 ≤ h81.size := Own.size_wr W81 Z74
  have q82 : Steps p.tables e below (s₁.setTop (entryFrame m #[(.int p0), (.int p1), (.int p2)] maxLocals)) (T81.setTop (mkF m 206 #[.val (.int p0), .val (.int p1), .val (.int p2), .val (.int bd), .val (.ref kb), .val (.int i0), .val (.int i1), .val (.int i2), .val (.int i3), .val (.ref ib), .val (.int v47), .val (.int v50), .val (.int v53), .val (.int v56), .val (.ref eb), .unset] [])) := q79.trans (st81 _ (Steps.refl _))
  have q83 : Steps p.tables e below (s₁.setTop (entryFrame m #[(.int p0), (.int p1), (.int p2)] maxLocals)) (T81.setTop (mkF m 219 #[.val (.int p0), .val (.int p1), .val (.int p2), .val (.int bd), .val (.ref kb), .val (.int i0), .val (.int i1), .val (.int i2), .val (.int i3), .val (.ref ib), .val (.int v47), .val (.int v50), .val (.int v53), .val (.int v56), .val (.ref eb), .unset] [(.int v56), (.int (3 : Int32)), (.int v56), (.int v53), (.int v50), (.int v47), (.ref eb)])) := q82.trans (by
      show Steps p.tables e below (T81.setTop (mkF m 206 #[.val (.int p0), .val (.int p1), .val (.int p2), .val (.int bd), .val (.ref kb), .val (.int i0), .val (.int i1), .val (.int i2), .val (.int i3), .val (.ref ib), .val (.int v47), .val (.int v50), .val (.int v53), .val (.int v56), .val (.ref eb), .unset] [])) _
      refine XS.aload X81.here hx rfl (hb hby at_206) rfl rfl ?_
      show Steps p.tables e below (T81.setTop (mkF m 208 #[.val (.int p0), .val (.int p1), .val (.int p2), .val (.int bd), .val (.ref kb), .val (.int i0), .val (.int i1), .val (.int i2), .val (.int i3), .val (.ref ib), .val (.int v47), .val (.int v50), .val (.int v53), .val (.int v56), .val (.ref eb), .unset] [(.ref eb)])) _
      refine XS.iload X81.here hx rfl (hb hby at_208) rfl ?_
      show Steps p.tables e below (T81.setTop (mkF m 210 #[.val (.int p0), .val (.int p1), .val (.int p2), .val (.int bd), .val (.ref kb), .val (.int i0), .val (.int i1), .val (.int i2), .val (.int i3), .val (.ref ib), .val (.int v47), .val (.int v50), .val (.int v53), .val (.int v56), .val (.ref eb), .unset] [(.int v47), (.ref eb)])) _
      refine XS.iload X81.here hx rfl (hb hby at_210) rfl ?_
      show Steps p.tables e below (T81.setTop (mkF m 212 #[.val (.int p0), .val (.int p1), .val (.int p2), .val (.int bd), .val (.ref kb), .val (.int i0), .val (.int i1), .val (.int i2), .val (.int i3), .val (.ref ib), .val (.int v47), .val (.int v50), .val (.int v53), .val (.int v56), .val (.ref eb), .unset] [(.int v50), (.int v47), (.ref eb)])) _
      refine XS.iload X81.here hx rfl (hb hby at_212) rfl ?_
      show Steps p.tables e below (T81.setTop (mkF m 214 #[.val (.int p0), .val (.int p1), .val (.int p2), .val (.int bd), .val (.ref kb), .val (.int i0), .val (.int i1), .val (.int i2), .val (.int i3), .val (.ref ib), .val (.int v47), .val (.int v50), .val (.int v53), .val (.int v56), .val (.ref eb), .unset] [(.int v53), (.int v50), (.int v47), (.ref eb)])) _
      refine XS.iload X81.here hx rfl (hb hby at_214) rfl ?_
      show Steps p.tables e below (T81.setTop (mkF m 216 #[.val (.int p0), .val (.int p1), .val (.int p2), .val (.int bd), .val (.ref kb), .val (.int i0), .val (.int i1), .val (.int i2), .val (.int i3), .val (.ref ib), .val (.int v47), .val (.int v50), .val (.int v53), .val (.int v56), .val (.ref eb), .unset] [(.int v56), (.int v53), (.int v50), (.int v47), (.ref eb)])) _
      refine XS.iconst X81.here hx rfl (hb hby at_216) ?_
      show Steps p.tables e below (T81.setTop (mkF m 217 #[.val (.int p0), .val (.int p1), .val (.int p2), .val (.int bd), .val (.ref kb), .val (.int i0), .val (.int i1), .val (.int i2), .val (.int i3), .val (.ref ib), .val (.int v47), .val (.int v50), .val (.int v53), .val (.int v56), .val (.ref eb), .unset] [(.int (3 : Int32)), (.int v56), (.int v53), (.int v50), (.int v47), (.ref eb)])) _
      refine XS.iload X81.here hx rfl (hb hby at_217) rfl ?_
      show Steps p.tables e below (T81.setTop (mkF m 219 #[.val (.int p0), .val (.int p1), .val (.int p2), .val (.int bd), .val (.ref kb), .val (.int i0), .val (.int i1), .val (.int i2), .val (.int i3), .val (.ref ib), .val (.int v47), .val (.int v50), .val (.int v53), .val (.int v56), .val (.ref eb), .unset] [(.int v56), (.int (3 : Int32)), (.int v56), (.int v53), (.int v50), (.int v47), (.ref eb)])) _
      exact Steps.refl _)
  obtain ⟨_, _, ⟨T84, L84, k84, n84⟩, -, X84, ⟨Lc84, hQ84, l84, y84, z84⟩, st84⟩ := Jvm.LawKit.callS X81 hx (y := (⟨"com/example/pareto_workflow_scheduler/paretoworkflowscheduler/algorithm/SortsByKeyPinLaw", "pos", "(IIIIII)I"⟩ : MethodName)) hown (mvT hZ (hw _ (List.mem_of_getElem? (i := 1) rfl))) (mvT hZ (hw _ (List.mem_of_getElem? (i := 2) rfl))) (mvT hZ (hw _ (List.mem_of_getElem? (i := 3) rfl))) (mvT hZ (hw _ (List.mem_of_getElem? (i := 4) rfl))) (by decide) (backOf (W := 1) (rm2 l Z a0 hw [] v47 v50 v53 v56 (3 : Int32) v56 h81 n0 Z81) hZ (hw _ (List.mem_of_getElem? (i := 4) rfl)) (hw _ (List.mem_of_getElem? (i := 3) rfl)) (by decide) (by decide)) (g := (mkF m 219 #[.val (.int p0), .val (.int p1), .val (.int p2), .val (.int bd), .val (.ref kb), .val (.int i0), .val (.int i1), .val (.int i2), .val (.int i3), .val (.ref ib), .val (.int v47), .val (.int v50), .val (.int v53), .val (.int v56), .val (.ref eb), .unset] [(.int v56), (.int (3 : Int32)), (.int v56), (.int v53), (.int v50), (.int v47), (.ref eb)])) rfl (by rw [hml]; rfl) (argsL := [(.int v47), (.int v50), (.int v53), (.int v56), (.int (3 : Int32)), (.int v56)]) (rest := [(.ref eb)]) (lenOf pd_1 rfl) rfl (by show 2 * 0 + _ ≤ _; exact Nat.le_of_eq rfl) (hb hby at_219) (fun _ _ => ⟨rfl, e81, (by decide : 3 + 0 ≤ _), (by decide : 12 + 0 ≤ _)⟩)
  dsimp only [Pt.U, Pt.locs, Pt.cells, Pt.slots] at X84 l84 y84 z84 st84 hQ84
  subst l84 y84 z84
  obtain ⟨rfl, N84q, e84⟩ := hQ84
  have N84 := Fr.app N81 N84q
  have q85 : Steps p.tables e below (s₁.setTop (entryFrame m #[(.int p0), (.int p1), (.int p2)] maxLocals)) (T84.setTop (mkF m 222 #[.val (.int p0), .val (.int p1), .val (.int p2), .val (.int bd), .val (.ref kb), .val (.int i0), .val (.int i1), .val (.int i2), .val (.int i3), .val (.ref ib), .val (.int v47), .val (.int v50), .val (.int v53), .val (.int v56), .val (.ref eb), .unset] [(.int (F2 v47 v50 v53 v56 (3 : Int32) v56)), (.ref eb)])) := q83.trans (st84 _ (Steps.refl _))
  have q86 : Steps p.tables e below (s₁.setTop (entryFrame m #[(.int p0), (.int p1), (.int p2)] maxLocals)) (T84.setTop (mkF m 224 #[.val (.int p0), .val (.int p1), .val (.int p2), .val (.int bd), .val (.ref kb), .val (.int i0), .val (.int i1), .val (.int i2), .val (.int i3), .val (.ref ib), .val (.int v47), .val (.int v50), .val (.int v53), .val (.int v56), .val (.ref eb), .unset] [(.int i3), (.int (F2 v47 v50 v53 v56 (3 : Int32) v56)), (.ref eb)])) := q85.trans (by
      show Steps p.tables e below (T84.setTop (mkF m 222 #[.val (.int p0), .val (.int p1), .val (.int p2), .val (.int bd), .val (.ref kb), .val (.int i0), .val (.int i1), .val (.int i2), .val (.int i3), .val (.ref ib), .val (.int v47), .val (.int v50), .val (.int v53), .val (.int v56), .val (.ref eb), .unset] [(.int (F2 v47 v50 v53 v56 (3 : Int32) v56)), (.ref eb)])) _
      refine XS.iload X84.here hx rfl (hb hby at_222) rfl ?_
      show Steps p.tables e below (T84.setTop (mkF m 224 #[.val (.int p0), .val (.int p1), .val (.int p2), .val (.int bd), .val (.ref kb), .val (.int i0), .val (.int i1), .val (.int i2), .val (.int i3), .val (.ref ib), .val (.int v47), .val (.int v50), .val (.int v53), .val (.int v56), .val (.ref eb), .unset] [(.int i3), (.int (F2 v47 v50 v53 v56 (3 : Int32) v56)), (.ref eb)])) _
      exact Steps.refl _)
  obtain ⟨y87, hy87, hM⟩ := Option.bind_eq_some_iff.mp hM
  obtain ⟨T88, h88, X88, e88, W88, J88, st88⟩ := Own.stO X84 hx hZ e84 J81 hy87 (g := (mkF m 224 #[.val (.int p0), .val (.int p1), .val (.int p2), .val (.int bd), .val (.ref kb), .val (.int i0), .val (.int i1), .val (.int i2), .val (.int i3), .val (.ref ib), .val (.int v47), .val (.int v50), .val (.int v53), .val (.int v56), .val (.ref eb), .unset] [(.int i3), (.int (F2 v47 v50 v53 v56 (3 : Int32) v56)), (.ref eb)])) rfl rfl (hb hby at_224)
  have N88 := Fr.snoc X88 N84 ge_eb
  have Ikb_88 := Ikb_81.other W88 ne_kb_eb
  have Iib_88 := Iib_81.other W88 ne_ib_eb
  have Z88 : n0 ≤ h88.size := Own.size_wr W88 Z81
  have q89 : Steps p.tables e below (s₁.setTop (entryFrame m #[(.int p0), (.int p1), (.int p2)] maxLocals)) (T88.setTop (mkF m 225 #[.val (.int p0), .val (.int p1), .val (.int p2), .val (.int bd), .val (.ref kb), .val (.int i0), .val (.int i1), .val (.int i2), .val (.int i3), .val (.ref ib), .val (.int v47), .val (.int v50), .val (.int v53), .val (.int v56), .val (.ref eb), .unset] [])) := q86.trans (st88 _ (Steps.refl _))
  have q90 : Steps p.tables e below (s₁.setTop (entryFrame m #[(.int p0), (.int p1), (.int p2)] maxLocals)) (T88.setTop (mkF m 230 #[.val (.int p0), .val (.int p1), .val (.int p2), .val (.int bd), .val (.ref kb), .val (.int i0), .val (.int i1), .val (.int i2), .val (.int i3), .val (.ref ib), .val (.int v47), .val (.int v50), .val (.int v53), .val (.int v56), .val (.ref eb), .unset] [(.int bd), (.ref kb), (.ref ib)])) := q89.trans (by
      show Steps p.tables e below (T88.setTop (mkF m 225 #[.val (.int p0), .val (.int p1), .val (.int p2), .val (.int bd), .val (.ref kb), .val (.int i0), .val (.int i1), .val (.int i2), .val (.int i3), .val (.ref ib), .val (.int v47), .val (.int v50), .val (.int v53), .val (.int v56), .val (.ref eb), .unset] [])) _
      refine XS.aload X88.here hx rfl (hb hby at_225) rfl rfl ?_
      show Steps p.tables e below (T88.setTop (mkF m 227 #[.val (.int p0), .val (.int p1), .val (.int p2), .val (.int bd), .val (.ref kb), .val (.int i0), .val (.int i1), .val (.int i2), .val (.int i3), .val (.ref ib), .val (.int v47), .val (.int v50), .val (.int v53), .val (.int v56), .val (.ref eb), .unset] [(.ref ib)])) _
      refine XS.aload X88.here hx rfl (hb hby at_227) rfl rfl ?_
      show Steps p.tables e below (T88.setTop (mkF m 229 #[.val (.int p0), .val (.int p1), .val (.int p2), .val (.int bd), .val (.ref kb), .val (.int i0), .val (.int i1), .val (.int i2), .val (.int i3), .val (.ref ib), .val (.int v47), .val (.int v50), .val (.int v53), .val (.int v56), .val (.ref eb), .unset] [(.ref kb), (.ref ib)])) _
      refine XS.iloadN X88.here hx rfl (hb hby at_229) rfl ?_
      show Steps p.tables e below (T88.setTop (mkF m 230 #[.val (.int p0), .val (.int p1), .val (.int p2), .val (.int bd), .val (.ref kb), .val (.int i0), .val (.int i1), .val (.int i2), .val (.int i3), .val (.ref ib), .val (.int v47), .val (.int v50), .val (.int v53), .val (.int v56), .val (.ref eb), .unset] [(.int bd), (.ref kb), (.ref ib)])) _
      exact Steps.refl _)
  obtain ⟨r91, hr91, hM⟩ := Option.bind_eq_some_iff.mp hM
  obtain ⟨_, _, ⟨T92, L92, k92, n92⟩, -, X92, ⟨Lc92, hQ92, l92, y92, z92⟩, st92⟩ := Jvm.LawKit.callS X88 hx (y := (⟨"com/example/pareto_workflow_scheduler/paretoworkflowscheduler/algorithm/Sorts", "byKey", "([I[II)[I"⟩ : MethodName)) hown (mvT hZ (hw _ (List.mem_of_getElem? (i := 8) rfl))) (mvT hZ (hw _ (List.mem_of_getElem? (i := 9) rfl))) (mvT hZ (hw _ (List.mem_of_getElem? (i := 10) rfl))) (mvT hZ (hw _ (List.mem_of_getElem? (i := 11) rfl))) (by decide) (backOf (W := 0) (rmB l Z a0 hw [] ib kb bd y43 y19 r91 h88 n0 Z88 Iib_88 Ikb_88 hr91) hZ (hw _ (List.mem_of_getElem? (i := 11) rfl)) (hw _ (List.mem_of_getElem? (i := 10) rfl)) (by decide) (by decide)) (g := (mkF m 230 #[.val (.int p0), .val (.int p1), .val (.int p2), .val (.int bd), .val (.ref kb), .val (.int i0), .val (.int i1), .val (.int i2), .val (.int i3), .val (.ref ib), .val (.int v47), .val (.int v50), .val (.int v53), .val (.int v56), .val (.ref eb), .unset] [(.int bd), (.ref kb), (.ref ib)])) rfl (by rw [hml]; rfl) (argsL := [(.ref ib), (.ref kb), (.int bd)]) (rest := []) (lenOf pd_2 rfl) rfl (by show 2 * 0 + _ ≤ _; exact Nat.le_of_eq rfl) (hb hby at_230) (fun _ _ => ⟨rfl, e88, (by decide : 3 + 2 ≤ _), (by decide : 12 + 13 ≤ _)⟩)
  dsimp only [Pt.U, Pt.locs, Pt.cells, Pt.slots] at X92 l92 y92 z92 st92 hQ92
  subst l92 y92 z92
  obtain ⟨rb, rfl, N92q, K92, ob, Jr⟩ := hQ92
  have N92 := Fr.app N88 N92q
  have ne_kb_rb : kb ≠ rb := Nat.ne_of_lt (Nat.lt_of_lt_of_le Ikb_88.lt ob)
  have ne_ib_rb : ib ≠ rb := Nat.ne_of_lt (Nat.lt_of_lt_of_le Iib_88.lt ob)
  have ne_eb_rb : eb ≠ rb := Nat.ne_of_lt (Nat.lt_of_lt_of_le J88.lt ob)
  have Ikb_92 := Ikb_88.keep K92 nin0
  have Iib_92 := Iib_88.keep K92 nin0
  have Ieb_92 := J88.keep K92 nin0
  have Z92 : n0 ≤ T92.heap.size := Nat.le_trans Z88 K92.1
  have q93 : Steps p.tables e below (s₁.setTop (entryFrame m #[(.int p0), (.int p1), (.int p2)] maxLocals)) (T92.setTop (mkF m 233 #[.val (.int p0), .val (.int p1), .val (.int p2), .val (.int bd), .val (.ref kb), .val (.int i0), .val (.int i1), .val (.int i2), .val (.int i3), .val (.ref ib), .val (.int v47), .val (.int v50), .val (.int v53), .val (.int v56), .val (.ref eb), .unset] [(.ref rb)])) := q90.trans (st92 _ (Steps.refl _))
  have q94 : Steps p.tables e below (s₁.setTop (entryFrame m #[(.int p0), (.int p1), (.int p2)] maxLocals)) (T92.setTop (mkF m 239 #[.val (.int p0), .val (.int p1), .val (.int p2), .val (.int bd), .val (.ref kb), .val (.int i0), .val (.int i1), .val (.int i2), .val (.int i3), .val (.ref ib), .val (.int v47), .val (.int v50), .val (.int v53), .val (.int v56), .val (.ref eb), .val (.ref rb)] [(.ref ib), (.ref rb)])) := q93.trans (by
      show Steps p.tables e below (T92.setTop (mkF m 233 #[.val (.int p0), .val (.int p1), .val (.int p2), .val (.int bd), .val (.ref kb), .val (.int i0), .val (.int i1), .val (.int i2), .val (.int i3), .val (.ref ib), .val (.int v47), .val (.int v50), .val (.int v53), .val (.int v56), .val (.ref eb), .unset] [(.ref rb)])) _
      refine XS.astore X92.here hx rfl (hb hby at_233) rfl rfl (l' := #[.val (.int p0), .val (.int p1), .val (.int p2), .val (.int bd), .val (.ref kb), .val (.int i0), .val (.int i1), .val (.int i2), .val (.int i3), .val (.ref ib), .val (.int v47), .val (.int v50), .val (.int v53), .val (.int v56), .val (.ref eb), .val (.ref rb)]) rfl ?_
      show Steps p.tables e below (T92.setTop (mkF m 235 #[.val (.int p0), .val (.int p1), .val (.int p2), .val (.int bd), .val (.ref kb), .val (.int i0), .val (.int i1), .val (.int i2), .val (.int i3), .val (.ref ib), .val (.int v47), .val (.int v50), .val (.int v53), .val (.int v56), .val (.ref eb), .val (.ref rb)] [])) _
      refine XS.aload X92.here hx rfl (hb hby at_235) rfl rfl ?_
      show Steps p.tables e below (T92.setTop (mkF m 237 #[.val (.int p0), .val (.int p1), .val (.int p2), .val (.int bd), .val (.ref kb), .val (.int i0), .val (.int i1), .val (.int i2), .val (.int i3), .val (.ref ib), .val (.int v47), .val (.int v50), .val (.int v53), .val (.int v56), .val (.ref eb), .val (.ref rb)] [(.ref rb)])) _
      refine XS.aload X92.here hx rfl (hb hby at_237) rfl rfl ?_
      show Steps p.tables e below (T92.setTop (mkF m 239 #[.val (.int p0), .val (.int p1), .val (.int p2), .val (.int bd), .val (.ref kb), .val (.int i0), .val (.int i1), .val (.int i2), .val (.int i3), .val (.ref ib), .val (.int v47), .val (.int v50), .val (.int v53), .val (.int v56), .val (.ref eb), .val (.ref rb)] [(.ref ib), (.ref rb)])) _
      exact Steps.refl _)
  have hk95 : ¬ (rb = ib) := Ne.symm ne_ib_rb
  have q96 : Steps p.tables e below (s₁.setTop (entryFrame m #[(.int p0), (.int p1), (.int p2)] maxLocals)) (T92.setTop (mkF m 244 #[.val (.int p0), .val (.int p1), .val (.int p2), .val (.int bd), .val (.ref kb), .val (.int i0), .val (.int i1), .val (.int i2), .val (.int i3), .val (.ref ib), .val (.int v47), .val (.int v50), .val (.int v53), .val (.int v56), .val (.ref eb), .val (.ref rb)] [])) := q94.trans (by
      show Steps p.tables e below (T92.setTop (mkF m 239 #[.val (.int p0), .val (.int p1), .val (.int p2), .val (.int bd), .val (.ref kb), .val (.int i0), .val (.int i1), .val (.int i2), .val (.int i3), .val (.ref ib), .val (.int v47), .val (.int v50), .val (.int v53), .val (.int v56), .val (.ref eb), .val (.ref rb)] [(.ref ib), (.ref rb)])) _
      refine Jvm.RoadKit.acmp (g := (mkF m 239 #[.val (.int p0), .val (.int p1), .val (.int p2), .val (.int bd), .val (.ref kb), .val (.int i0), .val (.int i1), .val (.int i2), .val (.int i3), .val (.ref ib), .val (.int v47), .val (.int v50), .val (.int v53), .val (.int v56), .val (.ref eb), .val (.ref rb)] [(.ref ib), (.ref rb)])) X92 hx rfl rfl rfl (pc0 := 239) (pc' := 244) (same := false) rfl (hb hby at_239) rfl (decide_eq_false fun q => hk95 (Value.ref.inj q)) (by decide) (by decide) ?_
      show Steps p.tables e below (T92.setTop (mkF m 244 #[.val (.int p0), .val (.int p1), .val (.int p2), .val (.int bd), .val (.ref kb), .val (.int i0), .val (.int i1), .val (.int i2), .val (.int i3), .val (.ref ib), .val (.int v47), .val (.int v50), .val (.int v53), .val (.int v56), .val (.ref eb), .val (.ref rb)] [])) _
      exact Steps.refl _)
  have q97 : Steps p.tables e below (s₁.setTop (entryFrame m #[(.int p0), (.int p1), (.int p2)] maxLocals)) (T92.setTop (mkF m 248 #[.val (.int p0), .val (.int p1), .val (.int p2), .val (.int bd), .val (.ref kb), .val (.int i0), .val (.int i1), .val (.int i2), .val (.int i3), .val (.ref ib), .val (.int v47), .val (.int v50), .val (.int v53), .val (.int v56), .val (.ref eb), .val (.ref rb)] [(.int (4 : Int32)), (.int (Own.ln r91))])) := q96.trans (by
      show Steps p.tables e below (T92.setTop (mkF m 244 #[.val (.int p0), .val (.int p1), .val (.int p2), .val (.int bd), .val (.ref kb), .val (.int i0), .val (.int i1), .val (.int i2), .val (.int i3), .val (.ref ib), .val (.int v47), .val (.int v50), .val (.int v53), .val (.int v56), .val (.ref eb), .val (.ref rb)] [])) _
      refine XS.aload X92.here hx rfl (hb hby at_244) rfl rfl ?_
      show Steps p.tables e below (T92.setTop (mkF m 246 #[.val (.int p0), .val (.int p1), .val (.int p2), .val (.int bd), .val (.ref kb), .val (.int i0), .val (.int i1), .val (.int i2), .val (.int i3), .val (.ref ib), .val (.int v47), .val (.int v50), .val (.int v53), .val (.int v56), .val (.ref eb), .val (.ref rb)] [(.ref rb)])) _
      refine Own.lnV X92 hx hZ rfl Jr (z := Own.ln r91) (by rw [List.length_map]; rfl) (g := (mkF m 246 #[.val (.int p0), .val (.int p1), .val (.int p2), .val (.int bd), .val (.ref kb), .val (.int i0), .val (.int i1), .val (.int i2), .val (.int i3), .val (.ref ib), .val (.int v47), .val (.int v50), .val (.int v53), .val (.int v56), .val (.ref eb), .val (.ref rb)] [(.ref rb)])) rfl rfl (hb hby at_246) _ ?_
      show Steps p.tables e below (T92.setTop (mkF m 247 #[.val (.int p0), .val (.int p1), .val (.int p2), .val (.int bd), .val (.ref kb), .val (.int i0), .val (.int i1), .val (.int i2), .val (.int i3), .val (.ref ib), .val (.int v47), .val (.int v50), .val (.int v53), .val (.int v56), .val (.ref eb), .val (.ref rb)] [(.int (Own.ln r91))])) _
      refine XS.iconst X92.here hx rfl (hb hby at_247) ?_
      show Steps p.tables e below (T92.setTop (mkF m 248 #[.val (.int p0), .val (.int p1), .val (.int p2), .val (.int bd), .val (.ref kb), .val (.int i0), .val (.int i1), .val (.int i2), .val (.int i3), .val (.ref ib), .val (.int v47), .val (.int v50), .val (.int v53), .val (.int v56), .val (.ref eb), .val (.ref rb)] [(.int (4 : Int32)), (.int (Own.ln r91))])) _
      exact Steps.refl _)
  by_cases hc98 : (Own.ln r91) = (4 : Int32)
  · rw [if_pos hc98] at hM
    have q99 : Steps p.tables e below (s₁.setTop (entryFrame m #[(.int p0), (.int p1), (.int p2)] maxLocals)) (T92.setTop (mkF m 253 #[.val (.int p0), .val (.int p1), .val (.int p2), .val (.int bd), .val (.ref kb), .val (.int i0), .val (.int i1), .val (.int i2), .val (.int i3), .val (.ref ib), .val (.int v47), .val (.int v50), .val (.int v53), .val (.int v56), .val (.ref eb), .val (.ref rb)] [])) := q97.trans (by
        show Steps p.tables e below (T92.setTop (mkF m 248 #[.val (.int p0), .val (.int p1), .val (.int p2), .val (.int bd), .val (.ref kb), .val (.int i0), .val (.int i1), .val (.int i2), .val (.int i3), .val (.ref ib), .val (.int v47), .val (.int v50), .val (.int v53), .val (.int v56), .val (.ref eb), .val (.ref rb)] [(.int (4 : Int32)), (.int (Own.ln r91))])) _
        refine XS.icmpYes X92.here hx rfl (pc0 := 248) (pc' := 253) rfl (hb hby at_248) rfl (teq hc98).1 (by decide) (by decide) ?_
        show Steps p.tables e below (T92.setTop (mkF m 253 #[.val (.int p0), .val (.int p1), .val (.int p2), .val (.int bd), .val (.ref kb), .val (.int i0), .val (.int i1), .val (.int i2), .val (.int i3), .val (.ref ib), .val (.int v47), .val (.int v50), .val (.int v53), .val (.int v56), .val (.ref eb), .val (.ref rb)] [])) _
        exact Steps.refl _)
    have q100 : Steps p.tables e below (s₁.setTop (entryFrame m #[(.int p0), (.int p1), (.int p2)] maxLocals)) (T92.setTop (mkF m 256 #[.val (.int p0), .val (.int p1), .val (.int p2), .val (.int bd), .val (.ref kb), .val (.int i0), .val (.int i1), .val (.int i2), .val (.int i3), .val (.ref ib), .val (.int v47), .val (.int v50), .val (.int v53), .val (.int v56), .val (.ref eb), .val (.ref rb)] [(.int (0 : Int32)), (.ref ib)])) := q99.trans (by
        show Steps p.tables e below (T92.setTop (mkF m 253 #[.val (.int p0), .val (.int p1), .val (.int p2), .val (.int bd), .val (.ref kb), .val (.int i0), .val (.int i1), .val (.int i2), .val (.int i3), .val (.ref ib), .val (.int v47), .val (.int v50), .val (.int v53), .val (.int v56), .val (.ref eb), .val (.ref rb)] [])) _
        refine XS.aload X92.here hx rfl (hb hby at_253) rfl rfl ?_
        show Steps p.tables e below (T92.setTop (mkF m 255 #[.val (.int p0), .val (.int p1), .val (.int p2), .val (.int bd), .val (.ref kb), .val (.int i0), .val (.int i1), .val (.int i2), .val (.int i3), .val (.ref ib), .val (.int v47), .val (.int v50), .val (.int v53), .val (.int v56), .val (.ref eb), .val (.ref rb)] [(.ref ib)])) _
        refine XS.iconst X92.here hx rfl (hb hby at_255) ?_
        show Steps p.tables e below (T92.setTop (mkF m 256 #[.val (.int p0), .val (.int p1), .val (.int p2), .val (.int bd), .val (.ref kb), .val (.int i0), .val (.int i1), .val (.int i2), .val (.int i3), .val (.ref ib), .val (.int v47), .val (.int v50), .val (.int v53), .val (.int v56), .val (.ref eb), .val (.ref rb)] [(.int (0 : Int32)), (.ref ib)])) _
        exact Steps.refl _)
    obtain ⟨v101, hv101, hM⟩ := Option.bind_eq_some_iff.mp hM
    have q102 : Steps p.tables e below (s₁.setTop (entryFrame m #[(.int p0), (.int p1), (.int p2)] maxLocals)) (T92.setTop (mkF m 257 #[.val (.int p0), .val (.int p1), .val (.int p2), .val (.int bd), .val (.ref kb), .val (.int i0), .val (.int i1), .val (.int i2), .val (.int i3), .val (.ref ib), .val (.int v47), .val (.int v50), .val (.int v53), .val (.int v56), .val (.ref eb), .val (.ref rb)] [(.int v101)])) := q100.trans (Own.ldO X92 hx hZ rfl Iib_92 hv101 (g := (mkF m 256 #[.val (.int p0), .val (.int p1), .val (.int p2), .val (.int bd), .val (.ref kb), .val (.int i0), .val (.int i1), .val (.int i2), .val (.int i3), .val (.ref ib), .val (.int v47), .val (.int v50), .val (.int v53), .val (.int v56), .val (.ref eb), .val (.ref rb)] [(.int (0 : Int32)), (.ref ib)])) rfl rfl (hb hby at_256) _ (Steps.refl _))
    have q103 : Steps p.tables e below (s₁.setTop (entryFrame m #[(.int p0), (.int p1), (.int p2)] maxLocals)) (T92.setTop (mkF m 259 #[.val (.int p0), .val (.int p1), .val (.int p2), .val (.int bd), .val (.ref kb), .val (.int i0), .val (.int i1), .val (.int i2), .val (.int i3), .val (.ref ib), .val (.int v47), .val (.int v50), .val (.int v53), .val (.int v56), .val (.ref eb), .val (.ref rb)] [(.int i0), (.int v101)])) := q102.trans (by
        show Steps p.tables e below (T92.setTop (mkF m 257 #[.val (.int p0), .val (.int p1), .val (.int p2), .val (.int bd), .val (.ref kb), .val (.int i0), .val (.int i1), .val (.int i2), .val (.int i3), .val (.ref ib), .val (.int v47), .val (.int v50), .val (.int v53), .val (.int v56), .val (.ref eb), .val (.ref rb)] [(.int v101)])) _
        refine XS.iload X92.here hx rfl (hb hby at_257) rfl ?_
        show Steps p.tables e below (T92.setTop (mkF m 259 #[.val (.int p0), .val (.int p1), .val (.int p2), .val (.int bd), .val (.ref kb), .val (.int i0), .val (.int i1), .val (.int i2), .val (.int i3), .val (.ref ib), .val (.int v47), .val (.int v50), .val (.int v53), .val (.int v56), .val (.ref eb), .val (.ref rb)] [(.int i0), (.int v101)])) _
        exact Steps.refl _)
    by_cases hc104 : v101 = i0
    · rw [if_pos hc104] at hM
      have q105 : Steps p.tables e below (s₁.setTop (entryFrame m #[(.int p0), (.int p1), (.int p2)] maxLocals)) (T92.setTop (mkF m 262 #[.val (.int p0), .val (.int p1), .val (.int p2), .val (.int bd), .val (.ref kb), .val (.int i0), .val (.int i1), .val (.int i2), .val (.int i3), .val (.ref ib), .val (.int v47), .val (.int v50), .val (.int v53), .val (.int v56), .val (.ref eb), .val (.ref rb)] [])) := q103.trans (by
          show Steps p.tables e below (T92.setTop (mkF m 259 #[.val (.int p0), .val (.int p1), .val (.int p2), .val (.int bd), .val (.ref kb), .val (.int i0), .val (.int i1), .val (.int i2), .val (.int i3), .val (.ref ib), .val (.int v47), .val (.int v50), .val (.int v53), .val (.int v56), .val (.ref eb), .val (.ref rb)] [(.int i0), (.int v101)])) _
          refine XS.icmpNo X92.here hx rfl (hb hby at_259) rfl (teq hc104).2 ?_
          show Steps p.tables e below (T92.setTop (mkF m 262 #[.val (.int p0), .val (.int p1), .val (.int p2), .val (.int bd), .val (.ref kb), .val (.int i0), .val (.int i1), .val (.int i2), .val (.int i3), .val (.ref ib), .val (.int v47), .val (.int v50), .val (.int v53), .val (.int v56), .val (.ref eb), .val (.ref rb)] [])) _
          exact Steps.refl _)
      have q106 : Steps p.tables e below (s₁.setTop (entryFrame m #[(.int p0), (.int p1), (.int p2)] maxLocals)) (T92.setTop (mkF m 265 #[.val (.int p0), .val (.int p1), .val (.int p2), .val (.int bd), .val (.ref kb), .val (.int i0), .val (.int i1), .val (.int i2), .val (.int i3), .val (.ref ib), .val (.int v47), .val (.int v50), .val (.int v53), .val (.int v56), .val (.ref eb), .val (.ref rb)] [(.int (1 : Int32)), (.ref ib)])) := q105.trans (by
          show Steps p.tables e below (T92.setTop (mkF m 262 #[.val (.int p0), .val (.int p1), .val (.int p2), .val (.int bd), .val (.ref kb), .val (.int i0), .val (.int i1), .val (.int i2), .val (.int i3), .val (.ref ib), .val (.int v47), .val (.int v50), .val (.int v53), .val (.int v56), .val (.ref eb), .val (.ref rb)] [])) _
          refine XS.aload X92.here hx rfl (hb hby at_262) rfl rfl ?_
          show Steps p.tables e below (T92.setTop (mkF m 264 #[.val (.int p0), .val (.int p1), .val (.int p2), .val (.int bd), .val (.ref kb), .val (.int i0), .val (.int i1), .val (.int i2), .val (.int i3), .val (.ref ib), .val (.int v47), .val (.int v50), .val (.int v53), .val (.int v56), .val (.ref eb), .val (.ref rb)] [(.ref ib)])) _
          refine XS.iconst X92.here hx rfl (hb hby at_264) ?_
          show Steps p.tables e below (T92.setTop (mkF m 265 #[.val (.int p0), .val (.int p1), .val (.int p2), .val (.int bd), .val (.ref kb), .val (.int i0), .val (.int i1), .val (.int i2), .val (.int i3), .val (.ref ib), .val (.int v47), .val (.int v50), .val (.int v53), .val (.int v56), .val (.ref eb), .val (.ref rb)] [(.int (1 : Int32)), (.ref ib)])) _
          exact Steps.refl _)
      obtain ⟨v107, hv107, hM⟩ := Option.bind_eq_some_iff.mp hM
      have q108 : Steps p.tables e below (s₁.setTop (entryFrame m #[(.int p0), (.int p1), (.int p2)] maxLocals)) (T92.setTop (mkF m 266 #[.val (.int p0), .val (.int p1), .val (.int p2), .val (.int bd), .val (.ref kb), .val (.int i0), .val (.int i1), .val (.int i2), .val (.int i3), .val (.ref ib), .val (.int v47), .val (.int v50), .val (.int v53), .val (.int v56), .val (.ref eb), .val (.ref rb)] [(.int v107)])) := q106.trans (Own.ldO X92 hx hZ rfl Iib_92 hv107 (g := (mkF m 265 #[.val (.int p0), .val (.int p1), .val (.int p2), .val (.int bd), .val (.ref kb), .val (.int i0), .val (.int i1), .val (.int i2), .val (.int i3), .val (.ref ib), .val (.int v47), .val (.int v50), .val (.int v53), .val (.int v56), .val (.ref eb), .val (.ref rb)] [(.int (1 : Int32)), (.ref ib)])) rfl rfl (hb hby at_265) _ (Steps.refl _))
      have q109 : Steps p.tables e below (s₁.setTop (entryFrame m #[(.int p0), (.int p1), (.int p2)] maxLocals)) (T92.setTop (mkF m 268 #[.val (.int p0), .val (.int p1), .val (.int p2), .val (.int bd), .val (.ref kb), .val (.int i0), .val (.int i1), .val (.int i2), .val (.int i3), .val (.ref ib), .val (.int v47), .val (.int v50), .val (.int v53), .val (.int v56), .val (.ref eb), .val (.ref rb)] [(.int i1), (.int v107)])) := q108.trans (by
          show Steps p.tables e below (T92.setTop (mkF m 266 #[.val (.int p0), .val (.int p1), .val (.int p2), .val (.int bd), .val (.ref kb), .val (.int i0), .val (.int i1), .val (.int i2), .val (.int i3), .val (.ref ib), .val (.int v47), .val (.int v50), .val (.int v53), .val (.int v56), .val (.ref eb), .val (.ref rb)] [(.int v107)])) _
          refine XS.iload X92.here hx rfl (hb hby at_266) rfl ?_
          show Steps p.tables e below (T92.setTop (mkF m 268 #[.val (.int p0), .val (.int p1), .val (.int p2), .val (.int bd), .val (.ref kb), .val (.int i0), .val (.int i1), .val (.int i2), .val (.int i3), .val (.ref ib), .val (.int v47), .val (.int v50), .val (.int v53), .val (.int v56), .val (.ref eb), .val (.ref rb)] [(.int i1), (.int v107)])) _
          exact Steps.refl _)
      by_cases hc110 : v107 = i1
      · rw [if_pos hc110] at hM
        have q111 : Steps p.tables e below (s₁.setTop (entryFrame m #[(.int p0), (.int p1), (.int p2)] maxLocals)) (T92.setTop (mkF m 271 #[.val (.int p0), .val (.int p1), .val (.int p2), .val (.int bd), .val (.ref kb), .val (.int i0), .val (.int i1), .val (.int i2), .val (.int i3), .val (.ref ib), .val (.int v47), .val (.int v50), .val (.int v53), .val (.int v56), .val (.ref eb), .val (.ref rb)] [])) := q109.trans (by
            show Steps p.tables e below (T92.setTop (mkF m 268 #[.val (.int p0), .val (.int p1), .val (.int p2), .val (.int bd), .val (.ref kb), .val (.int i0), .val (.int i1), .val (.int i2), .val (.int i3), .val (.ref ib), .val (.int v47), .val (.int v50), .val (.int v53), .val (.int v56), .val (.ref eb), .val (.ref rb)] [(.int i1), (.int v107)])) _
            refine XS.icmpNo X92.here hx rfl (hb hby at_268) rfl (teq hc110).2 ?_
            show Steps p.tables e below (T92.setTop (mkF m 271 #[.val (.int p0), .val (.int p1), .val (.int p2), .val (.int bd), .val (.ref kb), .val (.int i0), .val (.int i1), .val (.int i2), .val (.int i3), .val (.ref ib), .val (.int v47), .val (.int v50), .val (.int v53), .val (.int v56), .val (.ref eb), .val (.ref rb)] [])) _
            exact Steps.refl _)
        have q112 : Steps p.tables e below (s₁.setTop (entryFrame m #[(.int p0), (.int p1), (.int p2)] maxLocals)) (T92.setTop (mkF m 274 #[.val (.int p0), .val (.int p1), .val (.int p2), .val (.int bd), .val (.ref kb), .val (.int i0), .val (.int i1), .val (.int i2), .val (.int i3), .val (.ref ib), .val (.int v47), .val (.int v50), .val (.int v53), .val (.int v56), .val (.ref eb), .val (.ref rb)] [(.int (2 : Int32)), (.ref ib)])) := q111.trans (by
            show Steps p.tables e below (T92.setTop (mkF m 271 #[.val (.int p0), .val (.int p1), .val (.int p2), .val (.int bd), .val (.ref kb), .val (.int i0), .val (.int i1), .val (.int i2), .val (.int i3), .val (.ref ib), .val (.int v47), .val (.int v50), .val (.int v53), .val (.int v56), .val (.ref eb), .val (.ref rb)] [])) _
            refine XS.aload X92.here hx rfl (hb hby at_271) rfl rfl ?_
            show Steps p.tables e below (T92.setTop (mkF m 273 #[.val (.int p0), .val (.int p1), .val (.int p2), .val (.int bd), .val (.ref kb), .val (.int i0), .val (.int i1), .val (.int i2), .val (.int i3), .val (.ref ib), .val (.int v47), .val (.int v50), .val (.int v53), .val (.int v56), .val (.ref eb), .val (.ref rb)] [(.ref ib)])) _
            refine XS.iconst X92.here hx rfl (hb hby at_273) ?_
            show Steps p.tables e below (T92.setTop (mkF m 274 #[.val (.int p0), .val (.int p1), .val (.int p2), .val (.int bd), .val (.ref kb), .val (.int i0), .val (.int i1), .val (.int i2), .val (.int i3), .val (.ref ib), .val (.int v47), .val (.int v50), .val (.int v53), .val (.int v56), .val (.ref eb), .val (.ref rb)] [(.int (2 : Int32)), (.ref ib)])) _
            exact Steps.refl _)
        obtain ⟨v113, hv113, hM⟩ := Option.bind_eq_some_iff.mp hM
        have q114 : Steps p.tables e below (s₁.setTop (entryFrame m #[(.int p0), (.int p1), (.int p2)] maxLocals)) (T92.setTop (mkF m 275 #[.val (.int p0), .val (.int p1), .val (.int p2), .val (.int bd), .val (.ref kb), .val (.int i0), .val (.int i1), .val (.int i2), .val (.int i3), .val (.ref ib), .val (.int v47), .val (.int v50), .val (.int v53), .val (.int v56), .val (.ref eb), .val (.ref rb)] [(.int v113)])) := q112.trans (Own.ldO X92 hx hZ rfl Iib_92 hv113 (g := (mkF m 274 #[.val (.int p0), .val (.int p1), .val (.int p2), .val (.int bd), .val (.ref kb), .val (.int i0), .val (.int i1), .val (.int i2), .val (.int i3), .val (.ref ib), .val (.int v47), .val (.int v50), .val (.int v53), .val (.int v56), .val (.ref eb), .val (.ref rb)] [(.int (2 : Int32)), (.ref ib)])) rfl rfl (hb hby at_274) _ (Steps.refl _))
        have q115 : Steps p.tables e below (s₁.setTop (entryFrame m #[(.int p0), (.int p1), (.int p2)] maxLocals)) (T92.setTop (mkF m 277 #[.val (.int p0), .val (.int p1), .val (.int p2), .val (.int bd), .val (.ref kb), .val (.int i0), .val (.int i1), .val (.int i2), .val (.int i3), .val (.ref ib), .val (.int v47), .val (.int v50), .val (.int v53), .val (.int v56), .val (.ref eb), .val (.ref rb)] [(.int i2), (.int v113)])) := q114.trans (by
            show Steps p.tables e below (T92.setTop (mkF m 275 #[.val (.int p0), .val (.int p1), .val (.int p2), .val (.int bd), .val (.ref kb), .val (.int i0), .val (.int i1), .val (.int i2), .val (.int i3), .val (.ref ib), .val (.int v47), .val (.int v50), .val (.int v53), .val (.int v56), .val (.ref eb), .val (.ref rb)] [(.int v113)])) _
            refine XS.iload X92.here hx rfl (hb hby at_275) rfl ?_
            show Steps p.tables e below (T92.setTop (mkF m 277 #[.val (.int p0), .val (.int p1), .val (.int p2), .val (.int bd), .val (.ref kb), .val (.int i0), .val (.int i1), .val (.int i2), .val (.int i3), .val (.ref ib), .val (.int v47), .val (.int v50), .val (.int v53), .val (.int v56), .val (.ref eb), .val (.ref rb)] [(.int i2), (.int v113)])) _
            exact Steps.refl _)
        by_cases hc116 : v113 = i2
        · rw [if_pos hc116] at hM
          have q117 : Steps p.tables e below (s₁.setTop (entryFrame m #[(.int p0), (.int p1), (.int p2)] maxLocals)) (T92.setTop (mkF m 280 #[.val (.int p0), .val (.int p1), .val (.int p2), .val (.int bd), .val (.ref kb), .val (.int i0), .val (.int i1), .val (.int i2), .val (.int i3), .val (.ref ib), .val (.int v47), .val (.int v50), .val (.int v53), .val (.int v56), .val (.ref eb), .val (.ref rb)] [])) := q115.trans (by
              show Steps p.tables e below (T92.setTop (mkF m 277 #[.val (.int p0), .val (.int p1), .val (.int p2), .val (.int bd), .val (.ref kb), .val (.int i0), .val (.int i1), .val (.int i2), .val (.int i3), .val (.ref ib), .val (.int v47), .val (.int v50), .val (.int v53), .val (.int v56), .val (.ref eb), .val (.ref rb)] [(.int i2), (.int v113)])) _
              refine XS.icmpNo X92.here hx rfl (hb hby at_277) rfl (teq hc116).2 ?_
              show Steps p.tables e below (T92.setTop (mkF m 280 #[.val (.int p0), .val (.int p1), .val (.int p2), .val (.int bd), .val (.ref kb), .val (.int i0), .val (.int i1), .val (.int i2), .val (.int i3), .val (.ref ib), .val (.int v47), .val (.int v50), .val (.int v53), .val (.int v56), .val (.ref eb), .val (.ref rb)] [])) _
              exact Steps.refl _)
          have q118 : Steps p.tables e below (s₁.setTop (entryFrame m #[(.int p0), (.int p1), (.int p2)] maxLocals)) (T92.setTop (mkF m 283 #[.val (.int p0), .val (.int p1), .val (.int p2), .val (.int bd), .val (.ref kb), .val (.int i0), .val (.int i1), .val (.int i2), .val (.int i3), .val (.ref ib), .val (.int v47), .val (.int v50), .val (.int v53), .val (.int v56), .val (.ref eb), .val (.ref rb)] [(.int (3 : Int32)), (.ref ib)])) := q117.trans (by
              show Steps p.tables e below (T92.setTop (mkF m 280 #[.val (.int p0), .val (.int p1), .val (.int p2), .val (.int bd), .val (.ref kb), .val (.int i0), .val (.int i1), .val (.int i2), .val (.int i3), .val (.ref ib), .val (.int v47), .val (.int v50), .val (.int v53), .val (.int v56), .val (.ref eb), .val (.ref rb)] [])) _
              refine XS.aload X92.here hx rfl (hb hby at_280) rfl rfl ?_
              show Steps p.tables e below (T92.setTop (mkF m 282 #[.val (.int p0), .val (.int p1), .val (.int p2), .val (.int bd), .val (.ref kb), .val (.int i0), .val (.int i1), .val (.int i2), .val (.int i3), .val (.ref ib), .val (.int v47), .val (.int v50), .val (.int v53), .val (.int v56), .val (.ref eb), .val (.ref rb)] [(.ref ib)])) _
              refine XS.iconst X92.here hx rfl (hb hby at_282) ?_
              show Steps p.tables e below (T92.setTop (mkF m 283 #[.val (.int p0), .val (.int p1), .val (.int p2), .val (.int bd), .val (.ref kb), .val (.int i0), .val (.int i1), .val (.int i2), .val (.int i3), .val (.ref ib), .val (.int v47), .val (.int v50), .val (.int v53), .val (.int v56), .val (.ref eb), .val (.ref rb)] [(.int (3 : Int32)), (.ref ib)])) _
              exact Steps.refl _)
          obtain ⟨v119, hv119, hM⟩ := Option.bind_eq_some_iff.mp hM
          have q120 : Steps p.tables e below (s₁.setTop (entryFrame m #[(.int p0), (.int p1), (.int p2)] maxLocals)) (T92.setTop (mkF m 284 #[.val (.int p0), .val (.int p1), .val (.int p2), .val (.int bd), .val (.ref kb), .val (.int i0), .val (.int i1), .val (.int i2), .val (.int i3), .val (.ref ib), .val (.int v47), .val (.int v50), .val (.int v53), .val (.int v56), .val (.ref eb), .val (.ref rb)] [(.int v119)])) := q118.trans (Own.ldO X92 hx hZ rfl Iib_92 hv119 (g := (mkF m 283 #[.val (.int p0), .val (.int p1), .val (.int p2), .val (.int bd), .val (.ref kb), .val (.int i0), .val (.int i1), .val (.int i2), .val (.int i3), .val (.ref ib), .val (.int v47), .val (.int v50), .val (.int v53), .val (.int v56), .val (.ref eb), .val (.ref rb)] [(.int (3 : Int32)), (.ref ib)])) rfl rfl (hb hby at_283) _ (Steps.refl _))
          have q121 : Steps p.tables e below (s₁.setTop (entryFrame m #[(.int p0), (.int p1), (.int p2)] maxLocals)) (T92.setTop (mkF m 286 #[.val (.int p0), .val (.int p1), .val (.int p2), .val (.int bd), .val (.ref kb), .val (.int i0), .val (.int i1), .val (.int i2), .val (.int i3), .val (.ref ib), .val (.int v47), .val (.int v50), .val (.int v53), .val (.int v56), .val (.ref eb), .val (.ref rb)] [(.int i3), (.int v119)])) := q120.trans (by
              show Steps p.tables e below (T92.setTop (mkF m 284 #[.val (.int p0), .val (.int p1), .val (.int p2), .val (.int bd), .val (.ref kb), .val (.int i0), .val (.int i1), .val (.int i2), .val (.int i3), .val (.ref ib), .val (.int v47), .val (.int v50), .val (.int v53), .val (.int v56), .val (.ref eb), .val (.ref rb)] [(.int v119)])) _
              refine XS.iload X92.here hx rfl (hb hby at_284) rfl ?_
              show Steps p.tables e below (T92.setTop (mkF m 286 #[.val (.int p0), .val (.int p1), .val (.int p2), .val (.int bd), .val (.ref kb), .val (.int i0), .val (.int i1), .val (.int i2), .val (.int i3), .val (.ref ib), .val (.int v47), .val (.int v50), .val (.int v53), .val (.int v56), .val (.ref eb), .val (.ref rb)] [(.int i3), (.int v119)])) _
              exact Steps.refl _)
          by_cases hc122 : v119 = i3
          · rw [if_pos hc122] at hM
            have q123 : Steps p.tables e below (s₁.setTop (entryFrame m #[(.int p0), (.int p1), (.int p2)] maxLocals)) (T92.setTop (mkF m 291 #[.val (.int p0), .val (.int p1), .val (.int p2), .val (.int bd), .val (.ref kb), .val (.int i0), .val (.int i1), .val (.int i2), .val (.int i3), .val (.ref ib), .val (.int v47), .val (.int v50), .val (.int v53), .val (.int v56), .val (.ref eb), .val (.ref rb)] [])) := q121.trans (by
                show Steps p.tables e below (T92.setTop (mkF m 286 #[.val (.int p0), .val (.int p1), .val (.int p2), .val (.int bd), .val (.ref kb), .val (.int i0), .val (.int i1), .val (.int i2), .val (.int i3), .val (.ref ib), .val (.int v47), .val (.int v50), .val (.int v53), .val (.int v56), .val (.ref eb), .val (.ref rb)] [(.int i3), (.int v119)])) _
                refine XS.icmpYes X92.here hx rfl (pc0 := 286) (pc' := 291) rfl (hb hby at_286) rfl (teq hc122).1 (by decide) (by decide) ?_
                show Steps p.tables e below (T92.setTop (mkF m 291 #[.val (.int p0), .val (.int p1), .val (.int p2), .val (.int bd), .val (.ref kb), .val (.int i0), .val (.int i1), .val (.int i2), .val (.int i3), .val (.ref ib), .val (.int v47), .val (.int v50), .val (.int v53), .val (.int v56), .val (.ref eb), .val (.ref rb)] [])) _
                exact Steps.refl _)
            have q124 : Steps p.tables e below (s₁.setTop (entryFrame m #[(.int p0), (.int p1), (.int p2)] maxLocals)) (T92.setTop (mkF m 294 #[.val (.int p0), .val (.int p1), .val (.int p2), .val (.int bd), .val (.ref kb), .val (.int i0), .val (.int i1), .val (.int i2), .val (.int i3), .val (.ref ib), .val (.int v47), .val (.int v50), .val (.int v53), .val (.int v56), .val (.ref eb), .val (.ref rb)] [(.int (0 : Int32)), (.ref rb)])) := q123.trans (by
                show Steps p.tables e below (T92.setTop (mkF m 291 #[.val (.int p0), .val (.int p1), .val (.int p2), .val (.int bd), .val (.ref kb), .val (.int i0), .val (.int i1), .val (.int i2), .val (.int i3), .val (.ref ib), .val (.int v47), .val (.int v50), .val (.int v53), .val (.int v56), .val (.ref eb), .val (.ref rb)] [])) _
                refine XS.aload X92.here hx rfl (hb hby at_291) rfl rfl ?_
                show Steps p.tables e below (T92.setTop (mkF m 293 #[.val (.int p0), .val (.int p1), .val (.int p2), .val (.int bd), .val (.ref kb), .val (.int i0), .val (.int i1), .val (.int i2), .val (.int i3), .val (.ref ib), .val (.int v47), .val (.int v50), .val (.int v53), .val (.int v56), .val (.ref eb), .val (.ref rb)] [(.ref rb)])) _
                refine XS.iconst X92.here hx rfl (hb hby at_293) ?_
                show Steps p.tables e below (T92.setTop (mkF m 294 #[.val (.int p0), .val (.int p1), .val (.int p2), .val (.int bd), .val (.ref kb), .val (.int i0), .val (.int i1), .val (.int i2), .val (.int i3), .val (.ref ib), .val (.int v47), .val (.int v50), .val (.int v53), .val (.int v56), .val (.ref eb), .val (.ref rb)] [(.int (0 : Int32)), (.ref rb)])) _
                exact Steps.refl _)
            obtain ⟨v125, hv125, hM⟩ := Option.bind_eq_some_iff.mp hM
            have q126 : Steps p.tables e below (s₁.setTop (entryFrame m #[(.int p0), (.int p1), (.int p2)] maxLocals)) (T92.setTop (mkF m 295 #[.val (.int p0), .val (.int p1), .val (.int p2), .val (.int bd), .val (.ref kb), .val (.int i0), .val (.int i1), .val (.int i2), .val (.int i3), .val (.ref ib), .val (.int v47), .val (.int v50), .val (.int v53), .val (.int v56), .val (.ref eb), .val (.ref rb)] [(.int v125)])) := q124.trans (Own.ldO X92 hx hZ rfl Jr hv125 (g := (mkF m 294 #[.val (.int p0), .val (.int p1), .val (.int p2), .val (.int bd), .val (.ref kb), .val (.int i0), .val (.int i1), .val (.int i2), .val (.int i3), .val (.ref ib), .val (.int v47), .val (.int v50), .val (.int v53), .val (.int v56), .val (.ref eb), .val (.ref rb)] [(.int (0 : Int32)), (.ref rb)])) rfl rfl (hb hby at_294) _ (Steps.refl _))
            have q127 : Steps p.tables e below (s₁.setTop (entryFrame m #[(.int p0), (.int p1), (.int p2)] maxLocals)) (T92.setTop (mkF m 298 #[.val (.int p0), .val (.int p1), .val (.int p2), .val (.int bd), .val (.ref kb), .val (.int i0), .val (.int i1), .val (.int i2), .val (.int i3), .val (.ref ib), .val (.int v47), .val (.int v50), .val (.int v53), .val (.int v56), .val (.ref eb), .val (.ref rb)] [(.int (0 : Int32)), (.ref eb), (.int v125)])) := q126.trans (by
                show Steps p.tables e below (T92.setTop (mkF m 295 #[.val (.int p0), .val (.int p1), .val (.int p2), .val (.int bd), .val (.ref kb), .val (.int i0), .val (.int i1), .val (.int i2), .val (.int i3), .val (.ref ib), .val (.int v47), .val (.int v50), .val (.int v53), .val (.int v56), .val (.ref eb), .val (.ref rb)] [(.int v125)])) _
                refine XS.aload X92.here hx rfl (hb hby at_295) rfl rfl ?_
                show Steps p.tables e below (T92.setTop (mkF m 297 #[.val (.int p0), .val (.int p1), .val (.int p2), .val (.int bd), .val (.ref kb), .val (.int i0), .val (.int i1), .val (.int i2), .val (.int i3), .val (.ref ib), .val (.int v47), .val (.int v50), .val (.int v53), .val (.int v56), .val (.ref eb), .val (.ref rb)] [(.ref eb), (.int v125)])) _
                refine XS.iconst X92.here hx rfl (hb hby at_297) ?_
                show Steps p.tables e below (T92.setTop (mkF m 298 #[.val (.int p0), .val (.int p1), .val (.int p2), .val (.int bd), .val (.ref kb), .val (.int i0), .val (.int i1), .val (.int i2), .val (.int i3), .val (.ref ib), .val (.int v47), .val (.int v50), .val (.int v53), .val (.int v56), .val (.ref eb), .val (.ref rb)] [(.int (0 : Int32)), (.ref eb), (.int v125)])) _
                exact Steps.refl _)
            obtain ⟨v128, hv128, hM⟩ := Option.bind_eq_some_iff.mp hM
            have q129 : Steps p.tables e below (s₁.setTop (entryFrame m #[(.int p0), (.int p1), (.int p2)] maxLocals)) (T92.setTop (mkF m 299 #[.val (.int p0), .val (.int p1), .val (.int p2), .val (.int bd), .val (.ref kb), .val (.int i0), .val (.int i1), .val (.int i2), .val (.int i3), .val (.ref ib), .val (.int v47), .val (.int v50), .val (.int v53), .val (.int v56), .val (.ref eb), .val (.ref rb)] [(.int v128), (.int v125)])) := q127.trans (Own.ldO X92 hx hZ rfl Ieb_92 hv128 (g := (mkF m 298 #[.val (.int p0), .val (.int p1), .val (.int p2), .val (.int bd), .val (.ref kb), .val (.int i0), .val (.int i1), .val (.int i2), .val (.int i3), .val (.ref ib), .val (.int v47), .val (.int v50), .val (.int v53), .val (.int v56), .val (.ref eb), .val (.ref rb)] [(.int (0 : Int32)), (.ref eb), (.int v125)])) rfl rfl (hb hby at_298) _ (Steps.refl _))
            by_cases hc130 : v125 = v128
            · rw [if_pos hc130] at hM
              have q131 : Steps p.tables e below (s₁.setTop (entryFrame m #[(.int p0), (.int p1), (.int p2)] maxLocals)) (T92.setTop (mkF m 302 #[.val (.int p0), .val (.int p1), .val (.int p2), .val (.int bd), .val (.ref kb), .val (.int i0), .val (.int i1), .val (.int i2), .val (.int i3), .val (.ref ib), .val (.int v47), .val (.int v50), .val (.int v53), .val (.int v56), .val (.ref eb), .val (.ref rb)] [])) := q129.trans (by
                  show Steps p.tables e below (T92.setTop (mkF m 299 #[.val (.int p0), .val (.int p1), .val (.int p2), .val (.int bd), .val (.ref kb), .val (.int i0), .val (.int i1), .val (.int i2), .val (.int i3), .val (.ref ib), .val (.int v47), .val (.int v50), .val (.int v53), .val (.int v56), .val (.ref eb), .val (.ref rb)] [(.int v128), (.int v125)])) _
                  refine XS.icmpNo X92.here hx rfl (hb hby at_299) rfl (teq hc130).2 ?_
                  show Steps p.tables e below (T92.setTop (mkF m 302 #[.val (.int p0), .val (.int p1), .val (.int p2), .val (.int bd), .val (.ref kb), .val (.int i0), .val (.int i1), .val (.int i2), .val (.int i3), .val (.ref ib), .val (.int v47), .val (.int v50), .val (.int v53), .val (.int v56), .val (.ref eb), .val (.ref rb)] [])) _
                  exact Steps.refl _)
              have q132 : Steps p.tables e below (s₁.setTop (entryFrame m #[(.int p0), (.int p1), (.int p2)] maxLocals)) (T92.setTop (mkF m 305 #[.val (.int p0), .val (.int p1), .val (.int p2), .val (.int bd), .val (.ref kb), .val (.int i0), .val (.int i1), .val (.int i2), .val (.int i3), .val (.ref ib), .val (.int v47), .val (.int v50), .val (.int v53), .val (.int v56), .val (.ref eb), .val (.ref rb)] [(.int (1 : Int32)), (.ref rb)])) := q131.trans (by
                  show Steps p.tables e below (T92.setTop (mkF m 302 #[.val (.int p0), .val (.int p1), .val (.int p2), .val (.int bd), .val (.ref kb), .val (.int i0), .val (.int i1), .val (.int i2), .val (.int i3), .val (.ref ib), .val (.int v47), .val (.int v50), .val (.int v53), .val (.int v56), .val (.ref eb), .val (.ref rb)] [])) _
                  refine XS.aload X92.here hx rfl (hb hby at_302) rfl rfl ?_
                  show Steps p.tables e below (T92.setTop (mkF m 304 #[.val (.int p0), .val (.int p1), .val (.int p2), .val (.int bd), .val (.ref kb), .val (.int i0), .val (.int i1), .val (.int i2), .val (.int i3), .val (.ref ib), .val (.int v47), .val (.int v50), .val (.int v53), .val (.int v56), .val (.ref eb), .val (.ref rb)] [(.ref rb)])) _
                  refine XS.iconst X92.here hx rfl (hb hby at_304) ?_
                  show Steps p.tables e below (T92.setTop (mkF m 305 #[.val (.int p0), .val (.int p1), .val (.int p2), .val (.int bd), .val (.ref kb), .val (.int i0), .val (.int i1), .val (.int i2), .val (.int i3), .val (.ref ib), .val (.int v47), .val (.int v50), .val (.int v53), .val (.int v56), .val (.ref eb), .val (.ref rb)] [(.int (1 : Int32)), (.ref rb)])) _
                  exact Steps.refl _)
              obtain ⟨v133, hv133, hM⟩ := Option.bind_eq_some_iff.mp hM
              have q134 : Steps p.tables e below (s₁.setTop (entryFrame m #[(.int p0), (.int p1), (.int p2)] maxLocals)) (T92.setTop (mkF m 306 #[.val (.int p0), .val (.int p1), .val (.int p2), .val (.int bd), .val (.ref kb), .val (.int i0), .val (.int i1), .val (.int i2), .val (.int i3), .val (.ref ib), .val (.int v47), .val (.int v50), .val (.int v53), .val (.int v56), .val (.ref eb), .val (.ref rb)] [(.int v133)])) := q132.trans (Own.ldO X92 hx hZ rfl Jr hv133 (g := (mkF m 305 #[.val (.int p0), .val (.int p1), .val (.int p2), .val (.int bd), .val (.ref kb), .val (.int i0), .val (.int i1), .val (.int i2), .val (.int i3), .val (.ref ib), .val (.int v47), .val (.int v50), .val (.int v53), .val (.int v56), .val (.ref eb), .val (.ref rb)] [(.int (1 : Int32)), (.ref rb)])) rfl rfl (hb hby at_305) _ (Steps.refl _))
              have q135 : Steps p.tables e below (s₁.setTop (entryFrame m #[(.int p0), (.int p1), (.int p2)] maxLocals)) (T92.setTop (mkF m 309 #[.val (.int p0), .val (.int p1), .val (.int p2), .val (.int bd), .val (.ref kb), .val (.int i0), .val (.int i1), .val (.int i2), .val (.int i3), .val (.ref ib), .val (.int v47), .val (.int v50), .val (.int v53), .val (.int v56), .val (.ref eb), .val (.ref rb)] [(.int (1 : Int32)), (.ref eb), (.int v133)])) := q134.trans (by
                  show Steps p.tables e below (T92.setTop (mkF m 306 #[.val (.int p0), .val (.int p1), .val (.int p2), .val (.int bd), .val (.ref kb), .val (.int i0), .val (.int i1), .val (.int i2), .val (.int i3), .val (.ref ib), .val (.int v47), .val (.int v50), .val (.int v53), .val (.int v56), .val (.ref eb), .val (.ref rb)] [(.int v133)])) _
                  refine XS.aload X92.here hx rfl (hb hby at_306) rfl rfl ?_
                  show Steps p.tables e below (T92.setTop (mkF m 308 #[.val (.int p0), .val (.int p1), .val (.int p2), .val (.int bd), .val (.ref kb), .val (.int i0), .val (.int i1), .val (.int i2), .val (.int i3), .val (.ref ib), .val (.int v47), .val (.int v50), .val (.int v53), .val (.int v56), .val (.ref eb), .val (.ref rb)] [(.ref eb), (.int v133)])) _
                  refine XS.iconst X92.here hx rfl (hb hby at_308) ?_
                  show Steps p.tables e below (T92.setTop (mkF m 309 #[.val (.int p0), .val (.int p1), .val (.int p2), .val (.int bd), .val (.ref kb), .val (.int i0), .val (.int i1), .val (.int i2), .val (.int i3), .val (.ref ib), .val (.int v47), .val (.int v50), .val (.int v53), .val (.int v56), .val (.ref eb), .val (.ref rb)] [(.int (1 : Int32)), (.ref eb), (.int v133)])) _
                  exact Steps.refl _)
              obtain ⟨v136, hv136, hM⟩ := Option.bind_eq_some_iff.mp hM
              have q137 : Steps p.tables e below (s₁.setTop (entryFrame m #[(.int p0), (.int p1), (.int p2)] maxLocals)) (T92.setTop (mkF m 310 #[.val (.int p0), .val (.int p1), .val (.int p2), .val (.int bd), .val (.ref kb), .val (.int i0), .val (.int i1), .val (.int i2), .val (.int i3), .val (.ref ib), .val (.int v47), .val (.int v50), .val (.int v53), .val (.int v56), .val (.ref eb), .val (.ref rb)] [(.int v136), (.int v133)])) := q135.trans (Own.ldO X92 hx hZ rfl Ieb_92 hv136 (g := (mkF m 309 #[.val (.int p0), .val (.int p1), .val (.int p2), .val (.int bd), .val (.ref kb), .val (.int i0), .val (.int i1), .val (.int i2), .val (.int i3), .val (.ref ib), .val (.int v47), .val (.int v50), .val (.int v53), .val (.int v56), .val (.ref eb), .val (.ref rb)] [(.int (1 : Int32)), (.ref eb), (.int v133)])) rfl rfl (hb hby at_309) _ (Steps.refl _))
              by_cases hc138 : v133 = v136
              · rw [if_pos hc138] at hM
                have q139 : Steps p.tables e below (s₁.setTop (entryFrame m #[(.int p0), (.int p1), (.int p2)] maxLocals)) (T92.setTop (mkF m 313 #[.val (.int p0), .val (.int p1), .val (.int p2), .val (.int bd), .val (.ref kb), .val (.int i0), .val (.int i1), .val (.int i2), .val (.int i3), .val (.ref ib), .val (.int v47), .val (.int v50), .val (.int v53), .val (.int v56), .val (.ref eb), .val (.ref rb)] [])) := q137.trans (by
                    show Steps p.tables e below (T92.setTop (mkF m 310 #[.val (.int p0), .val (.int p1), .val (.int p2), .val (.int bd), .val (.ref kb), .val (.int i0), .val (.int i1), .val (.int i2), .val (.int i3), .val (.ref ib), .val (.int v47), .val (.int v50), .val (.int v53), .val (.int v56), .val (.ref eb), .val (.ref rb)] [(.int v136), (.int v133)])) _
                    refine XS.icmpNo X92.here hx rfl (hb hby at_310) rfl (teq hc138).2 ?_
                    show Steps p.tables e below (T92.setTop (mkF m 313 #[.val (.int p0), .val (.int p1), .val (.int p2), .val (.int bd), .val (.ref kb), .val (.int i0), .val (.int i1), .val (.int i2), .val (.int i3), .val (.ref ib), .val (.int v47), .val (.int v50), .val (.int v53), .val (.int v56), .val (.ref eb), .val (.ref rb)] [])) _
                    exact Steps.refl _)
                have q140 : Steps p.tables e below (s₁.setTop (entryFrame m #[(.int p0), (.int p1), (.int p2)] maxLocals)) (T92.setTop (mkF m 316 #[.val (.int p0), .val (.int p1), .val (.int p2), .val (.int bd), .val (.ref kb), .val (.int i0), .val (.int i1), .val (.int i2), .val (.int i3), .val (.ref ib), .val (.int v47), .val (.int v50), .val (.int v53), .val (.int v56), .val (.ref eb), .val (.ref rb)] [(.int (2 : Int32)), (.ref rb)])) := q139.trans (by
                    show Steps p.tables e below (T92.setTop (mkF m 313 #[.val (.int p0), .val (.int p1), .val (.int p2), .val (.int bd), .val (.ref kb), .val (.int i0), .val (.int i1), .val (.int i2), .val (.int i3), .val (.ref ib), .val (.int v47), .val (.int v50), .val (.int v53), .val (.int v56), .val (.ref eb), .val (.ref rb)] [])) _
                    refine XS.aload X92.here hx rfl (hb hby at_313) rfl rfl ?_
                    show Steps p.tables e below (T92.setTop (mkF m 315 #[.val (.int p0), .val (.int p1), .val (.int p2), .val (.int bd), .val (.ref kb), .val (.int i0), .val (.int i1), .val (.int i2), .val (.int i3), .val (.ref ib), .val (.int v47), .val (.int v50), .val (.int v53), .val (.int v56), .val (.ref eb), .val (.ref rb)] [(.ref rb)])) _
                    refine XS.iconst X92.here hx rfl (hb hby at_315) ?_
                    show Steps p.tables e below (T92.setTop (mkF m 316 #[.val (.int p0), .val (.int p1), .val (.int p2), .val (.int bd), .val (.ref kb), .val (.int i0), .val (.int i1), .val (.int i2), .val (.int i3), .val (.ref ib), .val (.int v47), .val (.int v50), .val (.int v53), .val (.int v56), .val (.ref eb), .val (.ref rb)] [(.int (2 : Int32)), (.ref rb)])) _
                    exact Steps.refl _)
                obtain ⟨v141, hv141, hM⟩ := Option.bind_eq_some_iff.mp hM
                have q142 : Steps p.tables e below (s₁.setTop (entryFrame m #[(.int p0), (.int p1), (.int p2)] maxLocals)) (T92.setTop (mkF m 317 #[.val (.int p0), .val (.int p1), .val (.int p2), .val (.int bd), .val (.ref kb), .val (.int i0), .val (.int i1), .val (.int i2), .val (.int i3), .val (.ref ib), .val (.int v47), .val (.int v50), .val (.int v53), .val (.int v56), .val (.ref eb), .val (.ref rb)] [(.int v141)])) := q140.trans (Own.ldO X92 hx hZ rfl Jr hv141 (g := (mkF m 316 #[.val (.int p0), .val (.int p1), .val (.int p2), .val (.int bd), .val (.ref kb), .val (.int i0), .val (.int i1), .val (.int i2), .val (.int i3), .val (.ref ib), .val (.int v47), .val (.int v50), .val (.int v53), .val (.int v56), .val (.ref eb), .val (.ref rb)] [(.int (2 : Int32)), (.ref rb)])) rfl rfl (hb hby at_316) _ (Steps.refl _))
                have q143 : Steps p.tables e below (s₁.setTop (entryFrame m #[(.int p0), (.int p1), (.int p2)] maxLocals)) (T92.setTop (mkF m 320 #[.val (.int p0), .val (.int p1), .val (.int p2), .val (.int bd), .val (.ref kb), .val (.int i0), .val (.int i1), .val (.int i2), .val (.int i3), .val (.ref ib), .val (.int v47), .val (.int v50), .val (.int v53), .val (.int v56), .val (.ref eb), .val (.ref rb)] [(.int (2 : Int32)), (.ref eb), (.int v141)])) := q142.trans (by
                    show Steps p.tables e below (T92.setTop (mkF m 317 #[.val (.int p0), .val (.int p1), .val (.int p2), .val (.int bd), .val (.ref kb), .val (.int i0), .val (.int i1), .val (.int i2), .val (.int i3), .val (.ref ib), .val (.int v47), .val (.int v50), .val (.int v53), .val (.int v56), .val (.ref eb), .val (.ref rb)] [(.int v141)])) _
                    refine XS.aload X92.here hx rfl (hb hby at_317) rfl rfl ?_
                    show Steps p.tables e below (T92.setTop (mkF m 319 #[.val (.int p0), .val (.int p1), .val (.int p2), .val (.int bd), .val (.ref kb), .val (.int i0), .val (.int i1), .val (.int i2), .val (.int i3), .val (.ref ib), .val (.int v47), .val (.int v50), .val (.int v53), .val (.int v56), .val (.ref eb), .val (.ref rb)] [(.ref eb), (.int v141)])) _
                    refine XS.iconst X92.here hx rfl (hb hby at_319) ?_
                    show Steps p.tables e below (T92.setTop (mkF m 320 #[.val (.int p0), .val (.int p1), .val (.int p2), .val (.int bd), .val (.ref kb), .val (.int i0), .val (.int i1), .val (.int i2), .val (.int i3), .val (.ref ib), .val (.int v47), .val (.int v50), .val (.int v53), .val (.int v56), .val (.ref eb), .val (.ref rb)] [(.int (2 : Int32)), (.ref eb), (.int v141)])) _
                    exact Steps.refl _)
                obtain ⟨v144, hv144, hM⟩ := Option.bind_eq_some_iff.mp hM
                have q145 : Steps p.tables e below (s₁.setTop (entryFrame m #[(.int p0), (.int p1), (.int p2)] maxLocals)) (T92.setTop (mkF m 321 #[.val (.int p0), .val (.int p1), .val (.int p2), .val (.int bd), .val (.ref kb), .val (.int i0), .val (.int i1), .val (.int i2), .val (.int i3), .val (.ref ib), .val (.int v47), .val (.int v50), .val (.int v53), .val (.int v56), .val (.ref eb), .val (.ref rb)] [(.int v144), (.int v141)])) := q143.trans (Own.ldO X92 hx hZ rfl Ieb_92 hv144 (g := (mkF m 320 #[.val (.int p0), .val (.int p1), .val (.int p2), .val (.int bd), .val (.ref kb), .val (.int i0), .val (.int i1), .val (.int i2), .val (.int i3), .val (.ref ib), .val (.int v47), .val (.int v50), .val (.int v53), .val (.int v56), .val (.ref eb), .val (.ref rb)] [(.int (2 : Int32)), (.ref eb), (.int v141)])) rfl rfl (hb hby at_320) _ (Steps.refl _))
                by_cases hc146 : v141 = v144
                · rw [if_pos hc146] at hM
                  have q147 : Steps p.tables e below (s₁.setTop (entryFrame m #[(.int p0), (.int p1), (.int p2)] maxLocals)) (T92.setTop (mkF m 324 #[.val (.int p0), .val (.int p1), .val (.int p2), .val (.int bd), .val (.ref kb), .val (.int i0), .val (.int i1), .val (.int i2), .val (.int i3), .val (.ref ib), .val (.int v47), .val (.int v50), .val (.int v53), .val (.int v56), .val (.ref eb), .val (.ref rb)] [])) := q145.trans (by
                      show Steps p.tables e below (T92.setTop (mkF m 321 #[.val (.int p0), .val (.int p1), .val (.int p2), .val (.int bd), .val (.ref kb), .val (.int i0), .val (.int i1), .val (.int i2), .val (.int i3), .val (.ref ib), .val (.int v47), .val (.int v50), .val (.int v53), .val (.int v56), .val (.ref eb), .val (.ref rb)] [(.int v144), (.int v141)])) _
                      refine XS.icmpNo X92.here hx rfl (hb hby at_321) rfl (teq hc146).2 ?_
                      show Steps p.tables e below (T92.setTop (mkF m 324 #[.val (.int p0), .val (.int p1), .val (.int p2), .val (.int bd), .val (.ref kb), .val (.int i0), .val (.int i1), .val (.int i2), .val (.int i3), .val (.ref ib), .val (.int v47), .val (.int v50), .val (.int v53), .val (.int v56), .val (.ref eb), .val (.ref rb)] [])) _
                      exact Steps.refl _)
                  have q148 : Steps p.tables e below (s₁.setTop (entryFrame m #[(.int p0), (.int p1), (.int p2)] maxLocals)) (T92.setTop (mkF m 327 #[.val (.int p0), .val (.int p1), .val (.int p2), .val (.int bd), .val (.ref kb), .val (.int i0), .val (.int i1), .val (.int i2), .val (.int i3), .val (.ref ib), .val (.int v47), .val (.int v50), .val (.int v53), .val (.int v56), .val (.ref eb), .val (.ref rb)] [(.int (3 : Int32)), (.ref rb)])) := q147.trans (by
                      show Steps p.tables e below (T92.setTop (mkF m 324 #[.val (.int p0), .val (.int p1), .val (.int p2), .val (.int bd), .val (.ref kb), .val (.int i0), .val (.int i1), .val (.int i2), .val (.int i3), .val (.ref ib), .val (.int v47), .val (.int v50), .val (.int v53), .val (.int v56), .val (.ref eb), .val (.ref rb)] [])) _
                      refine XS.aload X92.here hx rfl (hb hby at_324) rfl rfl ?_
                      show Steps p.tables e below (T92.setTop (mkF m 326 #[.val (.int p0), .val (.int p1), .val (.int p2), .val (.int bd), .val (.ref kb), .val (.int i0), .val (.int i1), .val (.int i2), .val (.int i3), .val (.ref ib), .val (.int v47), .val (.int v50), .val (.int v53), .val (.int v56), .val (.ref eb), .val (.ref rb)] [(.ref rb)])) _
                      refine XS.iconst X92.here hx rfl (hb hby at_326) ?_
                      show Steps p.tables e below (T92.setTop (mkF m 327 #[.val (.int p0), .val (.int p1), .val (.int p2), .val (.int bd), .val (.ref kb), .val (.int i0), .val (.int i1), .val (.int i2), .val (.int i3), .val (.ref ib), .val (.int v47), .val (.int v50), .val (.int v53), .val (.int v56), .val (.ref eb), .val (.ref rb)] [(.int (3 : Int32)), (.ref rb)])) _
                      exact Steps.refl _)
                  obtain ⟨v149, hv149, hM⟩ := Option.bind_eq_some_iff.mp hM
                  have q150 : Steps p.tables e below (s₁.setTop (entryFrame m #[(.int p0), (.int p1), (.int p2)] maxLocals)) (T92.setTop (mkF m 328 #[.val (.int p0), .val (.int p1), .val (.int p2), .val (.int bd), .val (.ref kb), .val (.int i0), .val (.int i1), .val (.int i2), .val (.int i3), .val (.ref ib), .val (.int v47), .val (.int v50), .val (.int v53), .val (.int v56), .val (.ref eb), .val (.ref rb)] [(.int v149)])) := q148.trans (Own.ldO X92 hx hZ rfl Jr hv149 (g := (mkF m 327 #[.val (.int p0), .val (.int p1), .val (.int p2), .val (.int bd), .val (.ref kb), .val (.int i0), .val (.int i1), .val (.int i2), .val (.int i3), .val (.ref ib), .val (.int v47), .val (.int v50), .val (.int v53), .val (.int v56), .val (.ref eb), .val (.ref rb)] [(.int (3 : Int32)), (.ref rb)])) rfl rfl (hb hby at_327) _ (Steps.refl _))
                  have q151 : Steps p.tables e below (s₁.setTop (entryFrame m #[(.int p0), (.int p1), (.int p2)] maxLocals)) (T92.setTop (mkF m 331 #[.val (.int p0), .val (.int p1), .val (.int p2), .val (.int bd), .val (.ref kb), .val (.int i0), .val (.int i1), .val (.int i2), .val (.int i3), .val (.ref ib), .val (.int v47), .val (.int v50), .val (.int v53), .val (.int v56), .val (.ref eb), .val (.ref rb)] [(.int (3 : Int32)), (.ref eb), (.int v149)])) := q150.trans (by
                      show Steps p.tables e below (T92.setTop (mkF m 328 #[.val (.int p0), .val (.int p1), .val (.int p2), .val (.int bd), .val (.ref kb), .val (.int i0), .val (.int i1), .val (.int i2), .val (.int i3), .val (.ref ib), .val (.int v47), .val (.int v50), .val (.int v53), .val (.int v56), .val (.ref eb), .val (.ref rb)] [(.int v149)])) _
                      refine XS.aload X92.here hx rfl (hb hby at_328) rfl rfl ?_
                      show Steps p.tables e below (T92.setTop (mkF m 330 #[.val (.int p0), .val (.int p1), .val (.int p2), .val (.int bd), .val (.ref kb), .val (.int i0), .val (.int i1), .val (.int i2), .val (.int i3), .val (.ref ib), .val (.int v47), .val (.int v50), .val (.int v53), .val (.int v56), .val (.ref eb), .val (.ref rb)] [(.ref eb), (.int v149)])) _
                      refine XS.iconst X92.here hx rfl (hb hby at_330) ?_
                      show Steps p.tables e below (T92.setTop (mkF m 331 #[.val (.int p0), .val (.int p1), .val (.int p2), .val (.int bd), .val (.ref kb), .val (.int i0), .val (.int i1), .val (.int i2), .val (.int i3), .val (.ref ib), .val (.int v47), .val (.int v50), .val (.int v53), .val (.int v56), .val (.ref eb), .val (.ref rb)] [(.int (3 : Int32)), (.ref eb), (.int v149)])) _
                      exact Steps.refl _)
                  obtain ⟨v152, hv152, hM⟩ := Option.bind_eq_some_iff.mp hM
                  have q153 : Steps p.tables e below (s₁.setTop (entryFrame m #[(.int p0), (.int p1), (.int p2)] maxLocals)) (T92.setTop (mkF m 332 #[.val (.int p0), .val (.int p1), .val (.int p2), .val (.int bd), .val (.ref kb), .val (.int i0), .val (.int i1), .val (.int i2), .val (.int i3), .val (.ref ib), .val (.int v47), .val (.int v50), .val (.int v53), .val (.int v56), .val (.ref eb), .val (.ref rb)] [(.int v152), (.int v149)])) := q151.trans (Own.ldO X92 hx hZ rfl Ieb_92 hv152 (g := (mkF m 331 #[.val (.int p0), .val (.int p1), .val (.int p2), .val (.int bd), .val (.ref kb), .val (.int i0), .val (.int i1), .val (.int i2), .val (.int i3), .val (.ref ib), .val (.int v47), .val (.int v50), .val (.int v53), .val (.int v56), .val (.ref eb), .val (.ref rb)] [(.int (3 : Int32)), (.ref eb), (.int v149)])) rfl rfl (hb hby at_331) _ (Steps.refl _))
                  by_cases hc154 : v149 = v152
                  · rw [if_pos hc154] at hM
                    have q155 : Steps p.tables e below (s₁.setTop (entryFrame m #[(.int p0), (.int p1), (.int p2)] maxLocals)) (T92.setTop (mkF m 335 #[.val (.int p0), .val (.int p1), .val (.int p2), .val (.int bd), .val (.ref kb), .val (.int i0), .val (.int i1), .val (.int i2), .val (.int i3), .val (.ref ib), .val (.int v47), .val (.int v50), .val (.int v53), .val (.int v56), .val (.ref eb), .val (.ref rb)] [])) := q153.trans (by
                        show Steps p.tables e below (T92.setTop (mkF m 332 #[.val (.int p0), .val (.int p1), .val (.int p2), .val (.int bd), .val (.ref kb), .val (.int i0), .val (.int i1), .val (.int i2), .val (.int i3), .val (.ref ib), .val (.int v47), .val (.int v50), .val (.int v53), .val (.int v56), .val (.ref eb), .val (.ref rb)] [(.int v152), (.int v149)])) _
                        refine XS.icmpNo X92.here hx rfl (hb hby at_332) rfl (teq hc154).2 ?_
                        show Steps p.tables e below (T92.setTop (mkF m 335 #[.val (.int p0), .val (.int p1), .val (.int p2), .val (.int bd), .val (.ref kb), .val (.int i0), .val (.int i1), .val (.int i2), .val (.int i3), .val (.ref ib), .val (.int v47), .val (.int v50), .val (.int v53), .val (.int v56), .val (.ref eb), .val (.ref rb)] [])) _
                        exact Steps.refl _)
                    have q156 : Steps p.tables e below (s₁.setTop (entryFrame m #[(.int p0), (.int p1), (.int p2)] maxLocals)) (T92.setTop (mkF m 340 #[.val (.int p0), .val (.int p1), .val (.int p2), .val (.int bd), .val (.ref kb), .val (.int i0), .val (.int i1), .val (.int i2), .val (.int i3), .val (.ref ib), .val (.int v47), .val (.int v50), .val (.int v53), .val (.int v56), .val (.ref eb), .val (.ref rb)] [(.int (1 : Int32))])) := q155.trans (by
                        show Steps p.tables e below (T92.setTop (mkF m 335 #[.val (.int p0), .val (.int p1), .val (.int p2), .val (.int bd), .val (.ref kb), .val (.int i0), .val (.int i1), .val (.int i2), .val (.int i3), .val (.ref ib), .val (.int v47), .val (.int v50), .val (.int v53), .val (.int v56), .val (.ref eb), .val (.ref rb)] [])) _
                        refine XS.iconst X92.here hx rfl (hb hby at_335) ?_
                        show Steps p.tables e below (T92.setTop (mkF m 336 #[.val (.int p0), .val (.int p1), .val (.int p2), .val (.int bd), .val (.ref kb), .val (.int i0), .val (.int i1), .val (.int i2), .val (.int i3), .val (.ref ib), .val (.int v47), .val (.int v50), .val (.int v53), .val (.int v56), .val (.ref eb), .val (.ref rb)] [(.int (1 : Int32))])) _
                        refine XS.goto X92.here hx rfl (pc0 := 336) (pc' := 340) rfl (hb hby at_336) (by decide) (by decide) ?_
                        show Steps p.tables e below (T92.setTop (mkF m 340 #[.val (.int p0), .val (.int p1), .val (.int p2), .val (.int bd), .val (.ref kb), .val (.int i0), .val (.int i1), .val (.int i2), .val (.int i3), .val (.ref ib), .val (.int v47), .val (.int v50), .val (.int v53), .val (.int v56), .val (.ref eb), .val (.ref rb)] [(.int (1 : Int32))])) _
                        exact Steps.refl _)
                    obtain rfl := Option.some.inj hM
                    obtain ⟨fs, hr, hrun, hended, hW, hsame⟩ := X92.leave (v := some (.int (1 : Int32))) (fun h => by rw [Bd.returns] at h; cases h)
                    refine ⟨_, _, q156.trans ?_, hrun, hended, _, _, rfl, ?_, ⟨_, rfl⟩, hW, hsame.mono (by decide) (by decide)⟩
                    · exact retN X92 hx (t := .boolean) Bd.returns (by simp) (hb hby at_340) hr
                    · show Q_rm0 Z p0 p1 p2 _ h0 n0 _ T92.heap _
                      exact ⟨rfl, N92⟩
                  · rw [if_neg hc154] at hM
                    have q157 : Steps p.tables e below (s₁.setTop (entryFrame m #[(.int p0), (.int p1), (.int p2)] maxLocals)) (T92.setTop (mkF m 339 #[.val (.int p0), .val (.int p1), .val (.int p2), .val (.int bd), .val (.ref kb), .val (.int i0), .val (.int i1), .val (.int i2), .val (.int i3), .val (.ref ib), .val (.int v47), .val (.int v50), .val (.int v53), .val (.int v56), .val (.ref eb), .val (.ref rb)] [])) := q153.trans (by
                        show Steps p.tables e below (T92.setTop (mkF m 332 #[.val (.int p0), .val (.int p1), .val (.int p2), .val (.int bd), .val (.ref kb), .val (.int i0), .val (.int i1), .val (.int i2), .val (.int i3), .val (.ref ib), .val (.int v47), .val (.int v50), .val (.int v53), .val (.int v56), .val (.ref eb), .val (.ref rb)] [(.int v152), (.int v149)])) _
                        refine XS.icmpYes X92.here hx rfl (pc0 := 332) (pc' := 339) rfl (hb hby at_332) rfl (feq hc154).2 (by decide) (by decide) ?_
                        show Steps p.tables e below (T92.setTop (mkF m 339 #[.val (.int p0), .val (.int p1), .val (.int p2), .val (.int bd), .val (.ref kb), .val (.int i0), .val (.int i1), .val (.int i2), .val (.int i3), .val (.ref ib), .val (.int v47), .val (.int v50), .val (.int v53), .val (.int v56), .val (.ref eb), .val (.ref rb)] [])) _
                        exact Steps.refl _)
                    have q158 : Steps p.tables e below (s₁.setTop (entryFrame m #[(.int p0), (.int p1), (.int p2)] maxLocals)) (T92.setTop (mkF m 340 #[.val (.int p0), .val (.int p1), .val (.int p2), .val (.int bd), .val (.ref kb), .val (.int i0), .val (.int i1), .val (.int i2), .val (.int i3), .val (.ref ib), .val (.int v47), .val (.int v50), .val (.int v53), .val (.int v56), .val (.ref eb), .val (.ref rb)] [(.int (0 : Int32))])) := q157.trans (by
                        show Steps p.tables e below (T92.setTop (mkF m 339 #[.val (.int p0), .val (.int p1), .val (.int p2), .val (.int bd), .val (.ref kb), .val (.int i0), .val (.int i1), .val (.int i2), .val (.int i3), .val (.ref ib), .val (.int v47), .val (.int v50), .val (.int v53), .val (.int v56), .val (.ref eb), .val (.ref rb)] [])) _
                        refine XS.iconst X92.here hx rfl (hb hby at_339) ?_
                        show Steps p.tables e below (T92.setTop (mkF m 340 #[.val (.int p0), .val (.int p1), .val (.int p2), .val (.int bd), .val (.ref kb), .val (.int i0), .val (.int i1), .val (.int i2), .val (.int i3), .val (.ref ib), .val (.int v47), .val (.int v50), .val (.int v53), .val (.int v56), .val (.ref eb), .val (.ref rb)] [(.int (0 : Int32))])) _
                        exact Steps.refl _)
                    obtain rfl := Option.some.inj hM
                    obtain ⟨fs, hr, hrun, hended, hW, hsame⟩ := X92.leave (v := some (.int (0 : Int32))) (fun h => by rw [Bd.returns] at h; cases h)
                    refine ⟨_, _, q158.trans ?_, hrun, hended, _, _, rfl, ?_, ⟨_, rfl⟩, hW, hsame.mono (by decide) (by decide)⟩
                    · exact retN X92 hx (t := .boolean) Bd.returns (by simp) (hb hby at_340) hr
                    · show Q_rm0 Z p0 p1 p2 _ h0 n0 _ T92.heap _
                      exact ⟨rfl, N92⟩
                · rw [if_neg hc146] at hM
                  have q159 : Steps p.tables e below (s₁.setTop (entryFrame m #[(.int p0), (.int p1), (.int p2)] maxLocals)) (T92.setTop (mkF m 339 #[.val (.int p0), .val (.int p1), .val (.int p2), .val (.int bd), .val (.ref kb), .val (.int i0), .val (.int i1), .val (.int i2), .val (.int i3), .val (.ref ib), .val (.int v47), .val (.int v50), .val (.int v53), .val (.int v56), .val (.ref eb), .val (.ref rb)] [])) := q145.trans (by
                      show Steps p.tables e below (T92.setTop (mkF m 321 #[.val (.int p0), .val (.int p1), .val (.int p2), .val (.int bd), .val (.ref kb), .val (.int i0), .val (.int i1), .val (.int i2), .val (.int i3), .val (.ref ib), .val (.int v47), .val (.int v50), .val (.int v53), .val (.int v56), .val (.ref eb), .val (.ref rb)] [(.int v144), (.int v141)])) _
                      refine XS.icmpYes X92.here hx rfl (pc0 := 321) (pc' := 339) rfl (hb hby at_321) rfl (feq hc146).2 (by decide) (by decide) ?_
                      show Steps p.tables e below (T92.setTop (mkF m 339 #[.val (.int p0), .val (.int p1), .val (.int p2), .val (.int bd), .val (.ref kb), .val (.int i0), .val (.int i1), .val (.int i2), .val (.int i3), .val (.ref ib), .val (.int v47), .val (.int v50), .val (.int v53), .val (.int v56), .val (.ref eb), .val (.ref rb)] [])) _
                      exact Steps.refl _)
                  have q160 : Steps p.tables e below (s₁.setTop (entryFrame m #[(.int p0), (.int p1), (.int p2)] maxLocals)) (T92.setTop (mkF m 340 #[.val (.int p0), .val (.int p1), .val (.int p2), .val (.int bd), .val (.ref kb), .val (.int i0), .val (.int i1), .val (.int i2), .val (.int i3), .val (.ref ib), .val (.int v47), .val (.int v50), .val (.int v53), .val (.int v56), .val (.ref eb), .val (.ref rb)] [(.int (0 : Int32))])) := q159.trans (by
                      show Steps p.tables e below (T92.setTop (mkF m 339 #[.val (.int p0), .val (.int p1), .val (.int p2), .val (.int bd), .val (.ref kb), .val (.int i0), .val (.int i1), .val (.int i2), .val (.int i3), .val (.ref ib), .val (.int v47), .val (.int v50), .val (.int v53), .val (.int v56), .val (.ref eb), .val (.ref rb)] [])) _
                      refine XS.iconst X92.here hx rfl (hb hby at_339) ?_
                      show Steps p.tables e below (T92.setTop (mkF m 340 #[.val (.int p0), .val (.int p1), .val (.int p2), .val (.int bd), .val (.ref kb), .val (.int i0), .val (.int i1), .val (.int i2), .val (.int i3), .val (.ref ib), .val (.int v47), .val (.int v50), .val (.int v53), .val (.int v56), .val (.ref eb), .val (.ref rb)] [(.int (0 : Int32))])) _
                      exact Steps.refl _)
                  obtain rfl := Option.some.inj hM
                  obtain ⟨fs, hr, hrun, hended, hW, hsame⟩ := X92.leave (v := some (.int (0 : Int32))) (fun h => by rw [Bd.returns] at h; cases h)
                  refine ⟨_, _, q160.trans ?_, hrun, hended, _, _, rfl, ?_, ⟨_, rfl⟩, hW, hsame.mono (by decide) (by decide)⟩
                  · exact retN X92 hx (t := .boolean) Bd.returns (by simp) (hb hby at_340) hr
                  · show Q_rm0 Z p0 p1 p2 _ h0 n0 _ T92.heap _
                    exact ⟨rfl, N92⟩
              · rw [if_neg hc138] at hM
                have q161 : Steps p.tables e below (s₁.setTop (entryFrame m #[(.int p0), (.int p1), (.int p2)] maxLocals)) (T92.setTop (mkF m 339 #[.val (.int p0), .val (.int p1), .val (.int p2), .val (.int bd), .val (.ref kb), .val (.int i0), .val (.int i1), .val (.int i2), .val (.int i3), .val (.ref ib), .val (.int v47), .val (.int v50), .val (.int v53), .val (.int v56), .val (.ref eb), .val (.ref rb)] [])) := q137.trans (by
                    show Steps p.tables e below (T92.setTop (mkF m 310 #[.val (.int p0), .val (.int p1), .val (.int p2), .val (.int bd), .val (.ref kb), .val (.int i0), .val (.int i1), .val (.int i2), .val (.int i3), .val (.ref ib), .val (.int v47), .val (.int v50), .val (.int v53), .val (.int v56), .val (.ref eb), .val (.ref rb)] [(.int v136), (.int v133)])) _
                    refine XS.icmpYes X92.here hx rfl (pc0 := 310) (pc' := 339) rfl (hb hby at_310) rfl (feq hc138).2 (by decide) (by decide) ?_
                    show Steps p.tables e below (T92.setTop (mkF m 339 #[.val (.int p0), .val (.int p1), .val (.int p2), .val (.int bd), .val (.ref kb), .val (.int i0), .val (.int i1), .val (.int i2), .val (.int i3), .val (.ref ib), .val (.int v47), .val (.int v50), .val (.int v53), .val (.int v56), .val (.ref eb), .val (.ref rb)] [])) _
                    exact Steps.refl _)
                have q162 : Steps p.tables e below (s₁.setTop (entryFrame m #[(.int p0), (.int p1), (.int p2)] maxLocals)) (T92.setTop (mkF m 340 #[.val (.int p0), .val (.int p1), .val (.int p2), .val (.int bd), .val (.ref kb), .val (.int i0), .val (.int i1), .val (.int i2), .val (.int i3), .val (.ref ib), .val (.int v47), .val (.int v50), .val (.int v53), .val (.int v56), .val (.ref eb), .val (.ref rb)] [(.int (0 : Int32))])) := q161.trans (by
                    show Steps p.tables e below (T92.setTop (mkF m 339 #[.val (.int p0), .val (.int p1), .val (.int p2), .val (.int bd), .val (.ref kb), .val (.int i0), .val (.int i1), .val (.int i2), .val (.int i3), .val (.ref ib), .val (.int v47), .val (.int v50), .val (.int v53), .val (.int v56), .val (.ref eb), .val (.ref rb)] [])) _
                    refine XS.iconst X92.here hx rfl (hb hby at_339) ?_
                    show Steps p.tables e below (T92.setTop (mkF m 340 #[.val (.int p0), .val (.int p1), .val (.int p2), .val (.int bd), .val (.ref kb), .val (.int i0), .val (.int i1), .val (.int i2), .val (.int i3), .val (.ref ib), .val (.int v47), .val (.int v50), .val (.int v53), .val (.int v56), .val (.ref eb), .val (.ref rb)] [(.int (0 : Int32))])) _
                    exact Steps.refl _)
                obtain rfl := Option.some.inj hM
                obtain ⟨fs, hr, hrun, hended, hW, hsame⟩ := X92.leave (v := some (.int (0 : Int32))) (fun h => by rw [Bd.returns] at h; cases h)
                refine ⟨_, _, q162.trans ?_, hrun, hended, _, _, rfl, ?_, ⟨_, rfl⟩, hW, hsame.mono (by decide) (by decide)⟩
                · exact retN X92 hx (t := .boolean) Bd.returns (by simp) (hb hby at_340) hr
                · show Q_rm0 Z p0 p1 p2 _ h0 n0 _ T92.heap _
                  exact ⟨rfl, N92⟩
            · rw [if_neg hc130] at hM
              have q163 : Steps p.tables e below (s₁.setTop (entryFrame m #[(.int p0), (.int p1), (.int p2)] maxLocals)) (T92.setTop (mkF m 339 #[.val (.int p0), .val (.int p1), .val (.int p2), .val (.int bd), .val (.ref kb), .val (.int i0), .val (.int i1), .val (.int i2), .val (.int i3), .val (.ref ib), .val (.int v47), .val (.int v50), .val (.int v53), .val (.int v56), .val (.ref eb), .val (.ref rb)] [])) := q129.trans (by
                  show Steps p.tables e below (T92.setTop (mkF m 299 #[.val (.int p0), .val (.int p1), .val (.int p2), .val (.int bd), .val (.ref kb), .val (.int i0), .val (.int i1), .val (.int i2), .val (.int i3), .val (.ref ib), .val (.int v47), .val (.int v50), .val (.int v53), .val (.int v56), .val (.ref eb), .val (.ref rb)] [(.int v128), (.int v125)])) _
                  refine XS.icmpYes X92.here hx rfl (pc0 := 299) (pc' := 339) rfl (hb hby at_299) rfl (feq hc130).2 (by decide) (by decide) ?_
                  show Steps p.tables e below (T92.setTop (mkF m 339 #[.val (.int p0), .val (.int p1), .val (.int p2), .val (.int bd), .val (.ref kb), .val (.int i0), .val (.int i1), .val (.int i2), .val (.int i3), .val (.ref ib), .val (.int v47), .val (.int v50), .val (.int v53), .val (.int v56), .val (.ref eb), .val (.ref rb)] [])) _
                  exact Steps.refl _)
              have q164 : Steps p.tables e below (s₁.setTop (entryFrame m #[(.int p0), (.int p1), (.int p2)] maxLocals)) (T92.setTop (mkF m 340 #[.val (.int p0), .val (.int p1), .val (.int p2), .val (.int bd), .val (.ref kb), .val (.int i0), .val (.int i1), .val (.int i2), .val (.int i3), .val (.ref ib), .val (.int v47), .val (.int v50), .val (.int v53), .val (.int v56), .val (.ref eb), .val (.ref rb)] [(.int (0 : Int32))])) := q163.trans (by
                  show Steps p.tables e below (T92.setTop (mkF m 339 #[.val (.int p0), .val (.int p1), .val (.int p2), .val (.int bd), .val (.ref kb), .val (.int i0), .val (.int i1), .val (.int i2), .val (.int i3), .val (.ref ib), .val (.int v47), .val (.int v50), .val (.int v53), .val (.int v56), .val (.ref eb), .val (.ref rb)] [])) _
                  refine XS.iconst X92.here hx rfl (hb hby at_339) ?_
                  show Steps p.tables e below (T92.setTop (mkF m 340 #[.val (.int p0), .val (.int p1), .val (.int p2), .val (.int bd), .val (.ref kb), .val (.int i0), .val (.int i1), .val (.int i2), .val (.int i3), .val (.ref ib), .val (.int v47), .val (.int v50), .val (.int v53), .val (.int v56), .val (.ref eb), .val (.ref rb)] [(.int (0 : Int32))])) _
                  exact Steps.refl _)
              obtain rfl := Option.some.inj hM
              obtain ⟨fs, hr, hrun, hended, hW, hsame⟩ := X92.leave (v := some (.int (0 : Int32))) (fun h => by rw [Bd.returns] at h; cases h)
              refine ⟨_, _, q164.trans ?_, hrun, hended, _, _, rfl, ?_, ⟨_, rfl⟩, hW, hsame.mono (by decide) (by decide)⟩
              · exact retN X92 hx (t := .boolean) Bd.returns (by simp) (hb hby at_340) hr
              · show Q_rm0 Z p0 p1 p2 _ h0 n0 _ T92.heap _
                exact ⟨rfl, N92⟩
          · rw [if_neg hc122] at hM
            have q165 : Steps p.tables e below (s₁.setTop (entryFrame m #[(.int p0), (.int p1), (.int p2)] maxLocals)) (T92.setTop (mkF m 289 #[.val (.int p0), .val (.int p1), .val (.int p2), .val (.int bd), .val (.ref kb), .val (.int i0), .val (.int i1), .val (.int i2), .val (.int i3), .val (.ref ib), .val (.int v47), .val (.int v50), .val (.int v53), .val (.int v56), .val (.ref eb), .val (.ref rb)] [])) := q121.trans (by
                show Steps p.tables e below (T92.setTop (mkF m 286 #[.val (.int p0), .val (.int p1), .val (.int p2), .val (.int bd), .val (.ref kb), .val (.int i0), .val (.int i1), .val (.int i2), .val (.int i3), .val (.ref ib), .val (.int v47), .val (.int v50), .val (.int v53), .val (.int v56), .val (.ref eb), .val (.ref rb)] [(.int i3), (.int v119)])) _
                refine XS.icmpNo X92.here hx rfl (hb hby at_286) rfl (feq hc122).1 ?_
                show Steps p.tables e below (T92.setTop (mkF m 289 #[.val (.int p0), .val (.int p1), .val (.int p2), .val (.int bd), .val (.ref kb), .val (.int i0), .val (.int i1), .val (.int i2), .val (.int i3), .val (.ref ib), .val (.int v47), .val (.int v50), .val (.int v53), .val (.int v56), .val (.ref eb), .val (.ref rb)] [])) _
                exact Steps.refl _)
            have q166 : Steps p.tables e below (s₁.setTop (entryFrame m #[(.int p0), (.int p1), (.int p2)] maxLocals)) (T92.setTop (mkF m 290 #[.val (.int p0), .val (.int p1), .val (.int p2), .val (.int bd), .val (.ref kb), .val (.int i0), .val (.int i1), .val (.int i2), .val (.int i3), .val (.ref ib), .val (.int v47), .val (.int v50), .val (.int v53), .val (.int v56), .val (.ref eb), .val (.ref rb)] [(.int (0 : Int32))])) := q165.trans (by
                show Steps p.tables e below (T92.setTop (mkF m 289 #[.val (.int p0), .val (.int p1), .val (.int p2), .val (.int bd), .val (.ref kb), .val (.int i0), .val (.int i1), .val (.int i2), .val (.int i3), .val (.ref ib), .val (.int v47), .val (.int v50), .val (.int v53), .val (.int v56), .val (.ref eb), .val (.ref rb)] [])) _
                refine XS.iconst X92.here hx rfl (hb hby at_289) ?_
                show Steps p.tables e below (T92.setTop (mkF m 290 #[.val (.int p0), .val (.int p1), .val (.int p2), .val (.int bd), .val (.ref kb), .val (.int i0), .val (.int i1), .val (.int i2), .val (.int i3), .val (.ref ib), .val (.int v47), .val (.int v50), .val (.int v53), .val (.int v56), .val (.ref eb), .val (.ref rb)] [(.int (0 : Int32))])) _
                exact Steps.refl _)
            obtain rfl := Option.some.inj hM
            obtain ⟨fs, hr, hrun, hended, hW, hsame⟩ := X92.leave (v := some (.int (0 : Int32))) (fun h => by rw [Bd.returns] at h; cases h)
            refine ⟨_, _, q166.trans ?_, hrun, hended, _, _, rfl, ?_, ⟨_, rfl⟩, hW, hsame.mono (by decide) (by decide)⟩
            · exact retN X92 hx (t := .boolean) Bd.returns (by simp) (hb hby at_290) hr
            · show Q_rm0 Z p0 p1 p2 _ h0 n0 _ T92.heap _
              exact ⟨rfl, N92⟩
        · rw [if_neg hc116] at hM
          have q167 : Steps p.tables e below (s₁.setTop (entryFrame m #[(.int p0), (.int p1), (.int p2)] maxLocals)) (T92.setTop (mkF m 289 #[.val (.int p0), .val (.int p1), .val (.int p2), .val (.int bd), .val (.ref kb), .val (.int i0), .val (.int i1), .val (.int i2), .val (.int i3), .val (.ref ib), .val (.int v47), .val (.int v50), .val (.int v53), .val (.int v56), .val (.ref eb), .val (.ref rb)] [])) := q115.trans (by
              show Steps p.tables e below (T92.setTop (mkF m 277 #[.val (.int p0), .val (.int p1), .val (.int p2), .val (.int bd), .val (.ref kb), .val (.int i0), .val (.int i1), .val (.int i2), .val (.int i3), .val (.ref ib), .val (.int v47), .val (.int v50), .val (.int v53), .val (.int v56), .val (.ref eb), .val (.ref rb)] [(.int i2), (.int v113)])) _
              refine XS.icmpYes X92.here hx rfl (pc0 := 277) (pc' := 289) rfl (hb hby at_277) rfl (feq hc116).2 (by decide) (by decide) ?_
              show Steps p.tables e below (T92.setTop (mkF m 289 #[.val (.int p0), .val (.int p1), .val (.int p2), .val (.int bd), .val (.ref kb), .val (.int i0), .val (.int i1), .val (.int i2), .val (.int i3), .val (.ref ib), .val (.int v47), .val (.int v50), .val (.int v53), .val (.int v56), .val (.ref eb), .val (.ref rb)] [])) _
              exact Steps.refl _)
          have q168 : Steps p.tables e below (s₁.setTop (entryFrame m #[(.int p0), (.int p1), (.int p2)] maxLocals)) (T92.setTop (mkF m 290 #[.val (.int p0), .val (.int p1), .val (.int p2), .val (.int bd), .val (.ref kb), .val (.int i0), .val (.int i1), .val (.int i2), .val (.int i3), .val (.ref ib), .val (.int v47), .val (.int v50), .val (.int v53), .val (.int v56), .val (.ref eb), .val (.ref rb)] [(.int (0 : Int32))])) := q167.trans (by
              show Steps p.tables e below (T92.setTop (mkF m 289 #[.val (.int p0), .val (.int p1), .val (.int p2), .val (.int bd), .val (.ref kb), .val (.int i0), .val (.int i1), .val (.int i2), .val (.int i3), .val (.ref ib), .val (.int v47), .val (.int v50), .val (.int v53), .val (.int v56), .val (.ref eb), .val (.ref rb)] [])) _
              refine XS.iconst X92.here hx rfl (hb hby at_289) ?_
              show Steps p.tables e below (T92.setTop (mkF m 290 #[.val (.int p0), .val (.int p1), .val (.int p2), .val (.int bd), .val (.ref kb), .val (.int i0), .val (.int i1), .val (.int i2), .val (.int i3), .val (.ref ib), .val (.int v47), .val (.int v50), .val (.int v53), .val (.int v56), .val (.ref eb), .val (.ref rb)] [(.int (0 : Int32))])) _
              exact Steps.refl _)
          obtain rfl := Option.some.inj hM
          obtain ⟨fs, hr, hrun, hended, hW, hsame⟩ := X92.leave (v := some (.int (0 : Int32))) (fun h => by rw [Bd.returns] at h; cases h)
          refine ⟨_, _, q168.trans ?_, hrun, hended, _, _, rfl, ?_, ⟨_, rfl⟩, hW, hsame.mono (by decide) (by decide)⟩
          · exact retN X92 hx (t := .boolean) Bd.returns (by simp) (hb hby at_290) hr
          · show Q_rm0 Z p0 p1 p2 _ h0 n0 _ T92.heap _
            exact ⟨rfl, N92⟩
      · rw [if_neg hc110] at hM
        have q169 : Steps p.tables e below (s₁.setTop (entryFrame m #[(.int p0), (.int p1), (.int p2)] maxLocals)) (T92.setTop (mkF m 289 #[.val (.int p0), .val (.int p1), .val (.int p2), .val (.int bd), .val (.ref kb), .val (.int i0), .val (.int i1), .val (.int i2), .val (.int i3), .val (.ref ib), .val (.int v47), .val (.int v50), .val (.int v53), .val (.int v56), .val (.ref eb), .val (.ref rb)] [])) := q109.trans (by
            show Steps p.tables e below (T92.setTop (mkF m 268 #[.val (.int p0), .val (.int p1), .val (.int p2), .val (.int bd), .val (.ref kb), .val (.int i0), .val (.int i1), .val (.int i2), .val (.int i3), .val (.ref ib), .val (.int v47), .val (.int v50), .val (.int v53), .val (.int v56), .val (.ref eb), .val (.ref rb)] [(.int i1), (.int v107)])) _
            refine XS.icmpYes X92.here hx rfl (pc0 := 268) (pc' := 289) rfl (hb hby at_268) rfl (feq hc110).2 (by decide) (by decide) ?_
            show Steps p.tables e below (T92.setTop (mkF m 289 #[.val (.int p0), .val (.int p1), .val (.int p2), .val (.int bd), .val (.ref kb), .val (.int i0), .val (.int i1), .val (.int i2), .val (.int i3), .val (.ref ib), .val (.int v47), .val (.int v50), .val (.int v53), .val (.int v56), .val (.ref eb), .val (.ref rb)] [])) _
            exact Steps.refl _)
        have q170 : Steps p.tables e below (s₁.setTop (entryFrame m #[(.int p0), (.int p1), (.int p2)] maxLocals)) (T92.setTop (mkF m 290 #[.val (.int p0), .val (.int p1), .val (.int p2), .val (.int bd), .val (.ref kb), .val (.int i0), .val (.int i1), .val (.int i2), .val (.int i3), .val (.ref ib), .val (.int v47), .val (.int v50), .val (.int v53), .val (.int v56), .val (.ref eb), .val (.ref rb)] [(.int (0 : Int32))])) := q169.trans (by
            show Steps p.tables e below (T92.setTop (mkF m 289 #[.val (.int p0), .val (.int p1), .val (.int p2), .val (.int bd), .val (.ref kb), .val (.int i0), .val (.int i1), .val (.int i2), .val (.int i3), .val (.ref ib), .val (.int v47), .val (.int v50), .val (.int v53), .val (.int v56), .val (.ref eb), .val (.ref rb)] [])) _
            refine XS.iconst X92.here hx rfl (hb hby at_289) ?_
            show Steps p.tables e below (T92.setTop (mkF m 290 #[.val (.int p0), .val (.int p1), .val (.int p2), .val (.int bd), .val (.ref kb), .val (.int i0), .val (.int i1), .val (.int i2), .val (.int i3), .val (.ref ib), .val (.int v47), .val (.int v50), .val (.int v53), .val (.int v56), .val (.ref eb), .val (.ref rb)] [(.int (0 : Int32))])) _
            exact Steps.refl _)
        obtain rfl := Option.some.inj hM
        obtain ⟨fs, hr, hrun, hended, hW, hsame⟩ := X92.leave (v := some (.int (0 : Int32))) (fun h => by rw [Bd.returns] at h; cases h)
        refine ⟨_, _, q170.trans ?_, hrun, hended, _, _, rfl, ?_, ⟨_, rfl⟩, hW, hsame.mono (by decide) (by decide)⟩
        · exact retN X92 hx (t := .boolean) Bd.returns (by simp) (hb hby at_290) hr
        · show Q_rm0 Z p0 p1 p2 _ h0 n0 _ T92.heap _
          exact ⟨rfl, N92⟩
    · rw [if_neg hc104] at hM
      have q171 : Steps p.tables e below (s₁.setTop (entryFrame m #[(.int p0), (.int p1), (.int p2)] maxLocals)) (T92.setTop (mkF m 289 #[.val (.int p0), .val (.int p1), .val (.int p2), .val (.int bd), .val (.ref kb), .val (.int i0), .val (.int i1), .val (.int i2), .val (.int i3), .val (.ref ib), .val (.int v47), .val (.int v50), .val (.int v53), .val (.int v56), .val (.ref eb), .val (.ref rb)] [])) := q103.trans (by
          show Steps p.tables e below (T92.setTop (mkF m 259 #[.val (.int p0), .val (.int p1), .val (.int p2), .val (.int bd), .val (.ref kb), .val (.int i0), .val (.int i1), .val (.int i2), .val (.int i3), .val (.ref ib), .val (.int v47), .val (.int v50), .val (.int v53), .val (.int v56), .val (.ref eb), .val (.ref rb)] [(.int i0), (.int v101)])) _
          refine XS.icmpYes X92.here hx rfl (pc0 := 259) (pc' := 289) rfl (hb hby at_259) rfl (feq hc104).2 (by decide) (by decide) ?_
          show Steps p.tables e below (T92.setTop (mkF m 289 #[.val (.int p0), .val (.int p1), .val (.int p2), .val (.int bd), .val (.ref kb), .val (.int i0), .val (.int i1), .val (.int i2), .val (.int i3), .val (.ref ib), .val (.int v47), .val (.int v50), .val (.int v53), .val (.int v56), .val (.ref eb), .val (.ref rb)] [])) _
          exact Steps.refl _)
      have q172 : Steps p.tables e below (s₁.setTop (entryFrame m #[(.int p0), (.int p1), (.int p2)] maxLocals)) (T92.setTop (mkF m 290 #[.val (.int p0), .val (.int p1), .val (.int p2), .val (.int bd), .val (.ref kb), .val (.int i0), .val (.int i1), .val (.int i2), .val (.int i3), .val (.ref ib), .val (.int v47), .val (.int v50), .val (.int v53), .val (.int v56), .val (.ref eb), .val (.ref rb)] [(.int (0 : Int32))])) := q171.trans (by
          show Steps p.tables e below (T92.setTop (mkF m 289 #[.val (.int p0), .val (.int p1), .val (.int p2), .val (.int bd), .val (.ref kb), .val (.int i0), .val (.int i1), .val (.int i2), .val (.int i3), .val (.ref ib), .val (.int v47), .val (.int v50), .val (.int v53), .val (.int v56), .val (.ref eb), .val (.ref rb)] [])) _
          refine XS.iconst X92.here hx rfl (hb hby at_289) ?_
          show Steps p.tables e below (T92.setTop (mkF m 290 #[.val (.int p0), .val (.int p1), .val (.int p2), .val (.int bd), .val (.ref kb), .val (.int i0), .val (.int i1), .val (.int i2), .val (.int i3), .val (.ref ib), .val (.int v47), .val (.int v50), .val (.int v53), .val (.int v56), .val (.ref eb), .val (.ref rb)] [(.int (0 : Int32))])) _
          exact Steps.refl _)
      obtain rfl := Option.some.inj hM
      obtain ⟨fs, hr, hrun, hended, hW, hsame⟩ := X92.leave (v := some (.int (0 : Int32))) (fun h => by rw [Bd.returns] at h; cases h)
      refine ⟨_, _, q172.trans ?_, hrun, hended, _, _, rfl, ?_, ⟨_, rfl⟩, hW, hsame.mono (by decide) (by decide)⟩
      · exact retN X92 hx (t := .boolean) Bd.returns (by simp) (hb hby at_290) hr
      · show Q_rm0 Z p0 p1 p2 _ h0 n0 _ T92.heap _
        exact ⟨rfl, N92⟩
  · rw [if_neg hc98] at hM
    have q173 : Steps p.tables e below (s₁.setTop (entryFrame m #[(.int p0), (.int p1), (.int p2)] maxLocals)) (T92.setTop (mkF m 251 #[.val (.int p0), .val (.int p1), .val (.int p2), .val (.int bd), .val (.ref kb), .val (.int i0), .val (.int i1), .val (.int i2), .val (.int i3), .val (.ref ib), .val (.int v47), .val (.int v50), .val (.int v53), .val (.int v56), .val (.ref eb), .val (.ref rb)] [])) := q97.trans (by
        show Steps p.tables e below (T92.setTop (mkF m 248 #[.val (.int p0), .val (.int p1), .val (.int p2), .val (.int bd), .val (.ref kb), .val (.int i0), .val (.int i1), .val (.int i2), .val (.int i3), .val (.ref ib), .val (.int v47), .val (.int v50), .val (.int v53), .val (.int v56), .val (.ref eb), .val (.ref rb)] [(.int (4 : Int32)), (.int (Own.ln r91))])) _
        refine XS.icmpNo X92.here hx rfl (hb hby at_248) rfl (feq hc98).1 ?_
        show Steps p.tables e below (T92.setTop (mkF m 251 #[.val (.int p0), .val (.int p1), .val (.int p2), .val (.int bd), .val (.ref kb), .val (.int i0), .val (.int i1), .val (.int i2), .val (.int i3), .val (.ref ib), .val (.int v47), .val (.int v50), .val (.int v53), .val (.int v56), .val (.ref eb), .val (.ref rb)] [])) _
        exact Steps.refl _)
    have q174 : Steps p.tables e below (s₁.setTop (entryFrame m #[(.int p0), (.int p1), (.int p2)] maxLocals)) (T92.setTop (mkF m 252 #[.val (.int p0), .val (.int p1), .val (.int p2), .val (.int bd), .val (.ref kb), .val (.int i0), .val (.int i1), .val (.int i2), .val (.int i3), .val (.ref ib), .val (.int v47), .val (.int v50), .val (.int v53), .val (.int v56), .val (.ref eb), .val (.ref rb)] [(.int (0 : Int32))])) := q173.trans (by
        show Steps p.tables e below (T92.setTop (mkF m 251 #[.val (.int p0), .val (.int p1), .val (.int p2), .val (.int bd), .val (.ref kb), .val (.int i0), .val (.int i1), .val (.int i2), .val (.int i3), .val (.ref ib), .val (.int v47), .val (.int v50), .val (.int v53), .val (.int v56), .val (.ref eb), .val (.ref rb)] [])) _
        refine XS.iconst X92.here hx rfl (hb hby at_251) ?_
        show Steps p.tables e below (T92.setTop (mkF m 252 #[.val (.int p0), .val (.int p1), .val (.int p2), .val (.int bd), .val (.ref kb), .val (.int i0), .val (.int i1), .val (.int i2), .val (.int i3), .val (.ref ib), .val (.int v47), .val (.int v50), .val (.int v53), .val (.int v56), .val (.ref eb), .val (.ref rb)] [(.int (0 : Int32))])) _
        exact Steps.refl _)
    obtain rfl := Option.some.inj hM
    obtain ⟨fs, hr, hrun, hended, hW, hsame⟩ := X92.leave (v := some (.int (0 : Int32))) (fun h => by rw [Bd.returns] at h; cases h)
    refine ⟨_, _, q174.trans ?_, hrun, hended, _, _, rfl, ?_, ⟨_, rfl⟩, hW, hsame.mono (by decide) (by decide)⟩
    · exact retN X92 hx (t := .boolean) Bd.returns (by simp) (hb hby at_252) hr
    · show Q_rm0 Z p0 p1 p2 _ h0 n0 _ T92.heap _
      exact ⟨rfl, N92⟩

/-- the table of a function of small numbers -/
def own_tab (n : Nat) (c : Nat → Nat) : List Int32 := (List.range n).map fun x => Int32.ofNat (c x)
theorem own_toInt {x : Nat} (h : x < 1000) : (Int32.ofNat x).toInt = x := Int32.toInt_ofNat_of_lt (by omega)
theorem own_clamp {x : Nat} (h : x < 1000) : (Int32.ofNat x).toNatClampNeg = x := by simp only [Int32.toNatClampNeg, own_toInt h]; omega
theorem own_tab_len (n : Nat) (c : Nat → Nat) : (own_tab n c).length = n := by simp [own_tab]
theorem own_tab_rd {n : Nat} (c : Nat → Nat) {x : Nat} (h : x < n) (hn : n < 1000) : Own.rd (own_tab n c) (Int32.ofNat x) = some (Int32.ofNat (c x)) := by
  unfold Own.rd
  rw [own_tab_len, own_toInt (by omega), if_pos (by omega)]
  simp [Own.gi, own_clamp (show x < 1000 by omega), own_tab, List.getD_eq_getElem?_getD, h]
def own_upd (c : Nat → Nat) (x v : Nat) : Nat → Nat := fun y => if y = x then v else c y
theorem own_tab_wt {n : Nat} (c : Nat → Nat) {x : Nat} (v : Nat) (h : x < n) (hn : n < 1000) : Own.wt (own_tab n c) (Int32.ofNat x) (Int32.ofNat v) = some (own_tab n (own_upd c x v)) := by
  unfold Own.wt
  rw [own_tab_len, own_toInt (by omega), if_pos (by omega)]
  congr 1
  apply List.ext_getElem
  · simp [Own.si, own_tab]
  · intro i h1 h2
    simp only [Own.si, own_clamp (show x < 1000 by omega), own_tab, List.getElem_set, List.getElem_map, List.getElem_range, own_upd]
    by_cases q : x = i
    · subst q; simp
    · have : ¬ i = x := fun e => q e.symm
      simp [q, this]
theorem own_add (a b : Nat) : Int32.ofNat a + Int32.ofNat b = Int32.ofNat (a + b) := (Int32.ofNat_add a b).symm
theorem own_add1 (a : Nat) : Int32.ofNat a + (1 : Int32) = Int32.ofNat (a + 1) := own_add a 1
/-- [P] -/
def own_b (P : Prop) [Decidable P] : Nat := if P then 1 else 0
theorem own_upd1 (c : Nat → Nat) (x : Nat) : own_upd c x (c x + 1) = fun y => c y + own_b (y = x) := by
  funext y
  unfold own_upd own_b
  split <;> simp_all
theorem own_lp1 {n : Nat} (hn : n < 1000) (i0 i1 i2 i3 : Int32) (xk : List Int32) (k0 k1 k2 k3 : Nat) (h0 : Own.rd xk i0 = some (Int32.ofNat k0)) (h1 : Own.rd xk i1 = some (Int32.ofNat k1)) (h2 : Own.rd xk i2 = some (Int32.ofNat k2)) (h3 : Own.rd xk i3 = some (Int32.ofNat k3))
    (b0 : k0 + 1 < n) (b1 : k1 + 1 < n) (b2 : k2 + 1 < n) (b3 : k3 + 1 < n) :
    M_lp1 16 4 [i0, i1, i2, i3] xk 0 (own_tab n fun _ => 0) = some (4, own_tab n fun y => 0 + own_b (y = k0 + 1) + own_b (y = k1 + 1) + own_b (y = k2 + 1) + own_b (y = k3 + 1)) := by
  have t : ∀ (m : Nat) (j jn it : Int32) (k : Nat) (c : Nat → Nat) (hj : j < 4) (hjn : j + 1 = jn) (r1 : Own.rd [i0, i1, i2, i3] j = some it) (r2 : Own.rd xk it = some (Int32.ofNat k)) (hb : k + 1 < n),
      M_lp1 (m + 1) 4 [i0, i1, i2, i3] xk j (own_tab n c) = M_lp1 m 4 [i0, i1, i2, i3] xk jn (own_tab n fun y => c y + own_b (y = k + 1)) := by
    intro m j jn it k c hj hjn r1 r2 hb
    rw [M_lp1, if_pos hj, r1]
    simp only [Option.bind_some, r2, own_add1]
    rw [own_tab_rd c hb hn]
    simp only [Option.bind_some, own_add1]
    rw [own_tab_wt c _ hb hn, own_upd1]
    simp only [Option.bind_some, hjn]
  rw [t 15 0 1 i0 k0 _ (by decide) (by decide) rfl h0 b0, t 14 1 2 i1 k1 _ (by decide) (by decide) rfl h1 b1, t 13 2 3 i2 k2 _ (by decide) (by decide) rfl h2 b2, t 12 3 4 i3 k3 _ (by decide) (by decide) rfl h3 b3]
  rw [M_lp1, if_neg (by decide)]
/-- the sums up to a place -/
def own_S (c : Nat → Nat) : Nat → Nat
  | 0 => c 0
  | y + 1 => own_S c y + c (y + 1)
theorem own_lp2 {n : Nat} (hn : n < 1000) (c : Nat → Nat) (m : Nat) : ∀ i, 1 ≤ i → i ≤ n → n < i + m →
    M_lp2 m (Int32.ofNat i) (own_tab n fun y => if y < i then own_S c y else c y) = some (Int32.ofNat n, own_tab n (own_S c)) := by
  induction m with
  | zero => intro i h1 h2 h3; omega
  | succ m ih =>
    intro i h1 h2 h3
    have hl : Own.ln (own_tab n fun y => if y < i then own_S c y else c y) = Int32.ofNat n := by unfold Own.ln; rw [own_tab_len]
    rw [M_lp2, hl]
    by_cases q : i < n
    · have hlt : Int32.ofNat i < Int32.ofNat n := by rw [Int32.lt_iff_toInt_lt, own_toInt (by omega), own_toInt hn]; omega
      rw [if_pos hlt, own_tab_rd _ q hn]
      have hs : Int32.ofNat i - (1 : Int32) = Int32.ofNat (i - 1) := by
        obtain ⟨j, rfl⟩ : ∃ j, i = j + 1 := ⟨i - 1, by omega⟩
        rw [← own_add1]; simp
      simp only [Option.bind_some, hs]
      rw [own_tab_rd _ (show i - 1 < n by omega) hn]
      simp only [Option.bind_some, own_add]
      rw [own_tab_wt _ _ q hn]
      simp only [Option.bind_some, own_add1]
      rw [← ih (i + 1) (by omega) (by omega) (by omega)]
      congr 2
      funext y
      unfold own_upd
      obtain ⟨j, rfl⟩ : ∃ j, i = j + 1 := ⟨i - 1, by omega⟩
      by_cases y1 : y = j + 1
      · subst y1
        simp only [Nat.lt_irrefl, if_false, if_true, Nat.add_sub_cancel]
        rw [if_pos (by omega : j < j + 1), if_pos (by omega : j + 1 < j + 1 + 1)]
        rw [show own_S c (j + 1) = own_S c j + c (j + 1) from rfl]; omega
      · rw [if_neg y1]
        show (if y < j + 1 then own_S c y else c y) = _
        by_cases y2 : y < j + 1
        · rw [if_pos y2, if_pos (by omega)]
        · rw [if_neg y2, if_neg (by omega)]
    · obtain rfl : i = n := by omega
      have hlt : ¬ Int32.ofNat i < Int32.ofNat i := by rw [Int32.lt_iff_toInt_lt]; omega
      rw [if_neg hlt]
      congr 2
      unfold own_tab
      apply List.map_congr_left
      intro y hy
      show Int32.ofNat (if y < i then own_S c y else c y) = _
      rw [if_pos (List.mem_range.mp hy)]
theorem own_b1 (k y : Nat) : own_b (k < y + 1) = own_b (k < y) + own_b (y + 1 = k + 1) := by
  unfold own_b
  repeat' split
  all_goals omega
theorem own_S4 (k0 k1 k2 k3 y : Nat) : own_S (fun y => 0 + own_b (y = k0 + 1) + own_b (y = k1 + 1) + own_b (y = k2 + 1) + own_b (y = k3 + 1)) y = own_b (k0 < y) + own_b (k1 < y) + own_b (k2 < y) + own_b (k3 < y) := by
  induction y with
  | zero => rfl
  | succ y ih =>
    rw [own_b1 k0, own_b1 k1, own_b1 k2, own_b1 k3]
    show own_S _ y + (0 + own_b (y + 1 = k0 + 1) + own_b (y + 1 = k1 + 1) + own_b (y + 1 = k2 + 1) + own_b (y + 1 = k3 + 1)) = _
    rw [ih]
    omega
theorem own_lp3 {n : Nat} (hn : n < 1000) (i0 i1 i2 i3 : Int32) (xk zs : List Int32) (k0 k1 k2 k3 : Nat) (c : Nat → Nat) (h0 : Own.rd xk i0 = some (Int32.ofNat k0)) (h1 : Own.rd xk i1 = some (Int32.ofNat k1)) (h2 : Own.rd xk i2 = some (Int32.ofNat k2)) (h3 : Own.rd xk i3 = some (Int32.ofNat k3))
    (b0 : k0 < n) (b1 : k1 < n) (b2 : k2 < n) (b3 : k3 < n) :
    (M_lp3 16 4 [i0, i1, i2, i3] xk 0 (own_tab n c) zs).bind (fun r => some r.2.2) =
      (Own.wt zs (Int32.ofNat (c k0)) i0).bind fun z0 => (Own.wt z0 (Int32.ofNat (c k1 + own_b (k1 = k0))) i1).bind fun z1 => (Own.wt z1 (Int32.ofNat (c k2 + own_b (k2 = k0) + own_b (k2 = k1))) i2).bind fun z2 => (Own.wt z2 (Int32.ofNat (c k3 + own_b (k3 = k0) + own_b (k3 = k1) + own_b (k3 = k2))) i3) := by
  have t : ∀ (m : Nat) (j jn it : Int32) (k : Nat) (c : Nat → Nat) (zs : List Int32) (hj : j < 4) (hjn : j + 1 = jn) (r1 : Own.rd [i0, i1, i2, i3] j = some it) (r2 : Own.rd xk it = some (Int32.ofNat k)) (hb : k < n),
      M_lp3 (m + 1) 4 [i0, i1, i2, i3] xk j (own_tab n c) zs = (Own.wt zs (Int32.ofNat (c k)) it).bind fun z => M_lp3 m 4 [i0, i1, i2, i3] xk jn (own_tab n fun y => c y + own_b (y = k)) z := by
    intro m j jn it k c zs hj hjn r1 r2 hb
    rw [M_lp3, if_pos hj, r1]
    simp only [Option.bind_some, r2]
    rw [own_tab_rd c hb hn]
    simp only [Option.bind_some, own_add1]
    rw [own_tab_wt c _ hb hn, own_upd1]
    simp only [Option.bind_some, hjn]
  rw [t 15 0 1 i0 k0 _ zs (by decide) (by decide) rfl h0 b0]
  cases Own.wt zs (Int32.ofNat (c k0)) i0 with
  | none => rfl
  | some z0 =>
    simp only [Option.bind_some]
    rw [t 14 1 2 i1 k1 _ z0 (by decide) (by decide) rfl h1 b1]
    cases Own.wt z0 (Int32.ofNat (c k1 + own_b (k1 = k0))) i1 with
    | none => rfl
    | some z1 =>
      simp only [Option.bind_some]
      rw [t 13 2 3 i2 k2 _ z1 (by decide) (by decide) rfl h2 b2]
      cases Own.wt z1 (Int32.ofNat (c k2 + own_b (k2 = k0) + own_b (k2 = k1))) i2 with
      | none => rfl
      | some z2 =>
        simp only [Option.bind_some]
        rw [t 12 3 4 i3 k3 _ z2 (by decide) (by decide) rfl h3 b3]
        cases Own.wt z2 (Int32.ofNat (c k3 + own_b (k3 = k0) + own_b (k3 = k1) + own_b (k3 = k2))) i3 with
        | none => rfl
        | some z3 =>
          simp only [Option.bind_some]
          rw [M_lp3, if_neg (by decide)]
          rfl
theorem own_F1 {a b : Nat} (ha : a < 1000) (hb : b < 1000) (i j : Int32) : F1 (Int32.ofNat a) i (Int32.ofNat b) j = Int32.ofNat (own_b (a < b) + (if i < j then own_b (a = b) else 0)) := by
  unfold F1 own_b
  have e1 : (Int32.ofNat a < Int32.ofNat b) ↔ a < b := by rw [Int32.lt_iff_toInt_lt, own_toInt ha, own_toInt hb]; omega
  have e2 : (Int32.ofNat a = Int32.ofNat b) ↔ a = b := by rw [← Int32.toInt_inj, own_toInt ha, own_toInt hb]; omega
  simp only [e1, e2]
  repeat' split
  all_goals first | rfl | omega

theorem own_bc (a b : Nat) : own_b (a = b) = own_b (b = a) := by unfold own_b; repeat' split
                                                                 all_goals omega
theorem own_bi (a : Nat) : own_b (a < a) = 0 := by unfold own_b; rw [if_neg (Nat.lt_irrefl a)]
theorem own_b01 (P : Prop) [Decidable P] : own_b P ≤ 1 := by unfold own_b; split <;> omega
/-- the four places -/
def own_q (k0 k1 k2 k3 : Nat) : Nat × Nat × Nat × Nat :=
  (own_b (k0 < k0) + own_b (k1 < k0) + own_b (k2 < k0) + own_b (k3 < k0),
   own_b (k0 < k1) + own_b (k1 < k1) + own_b (k2 < k1) + own_b (k3 < k1) + own_b (k1 = k0),
   own_b (k0 < k2) + own_b (k1 < k2) + own_b (k2 < k2) + own_b (k3 < k2) + own_b (k2 = k0) + own_b (k2 = k1),
   own_b (k0 < k3) + own_b (k1 < k3) + own_b (k2 < k3) + own_b (k3 < k3) + own_b (k3 = k0) + own_b (k3 = k1) + own_b (k3 = k2))
theorem own_excl (a b : Nat) : own_b (a < b) + own_b (b = a) ≤ 1 := by unfold own_b; repeat' split
                                                                       all_goals omega
theorem own_q_lt (k0 k1 k2 k3 : Nat) : (own_q k0 k1 k2 k3).1 < 4 ∧ (own_q k0 k1 k2 k3).2.1 < 4 ∧ (own_q k0 k1 k2 k3).2.2.1 < 4 ∧ (own_q k0 k1 k2 k3).2.2.2 < 4 := by
  unfold own_q
  simp only [own_bi]
  have a1 := own_b01 (k1 < k0)
  have a2 := own_b01 (k2 < k0)
  have a3 := own_b01 (k3 < k0)
  have b1 := own_excl k0 k1
  have b2 := own_b01 (k2 < k1)
  have b3 := own_b01 (k3 < k1)
  have c1 := own_excl k0 k2
  have c2 := own_excl k1 k2
  have c3 := own_b01 (k3 < k2)
  have d1 := own_excl k0 k3
  have d2 := own_excl k1 k3
  have d3 := own_excl k2 k3
  omega
theorem own_F2 (k0 k1 k2 k3 : Nat) (h0 : k0 < 1000) (h1 : k1 < 1000) (h2 : k2 < 1000) (h3 : k3 < 1000) :
    F2 (Int32.ofNat k0) (Int32.ofNat k1) (Int32.ofNat k2) (Int32.ofNat k3) 0 (Int32.ofNat k0) = Int32.ofNat (own_q k0 k1 k2 k3).1 ∧
    F2 (Int32.ofNat k0) (Int32.ofNat k1) (Int32.ofNat k2) (Int32.ofNat k3) 1 (Int32.ofNat k1) = Int32.ofNat (own_q k0 k1 k2 k3).2.1 ∧
    F2 (Int32.ofNat k0) (Int32.ofNat k1) (Int32.ofNat k2) (Int32.ofNat k3) 2 (Int32.ofNat k2) = Int32.ofNat (own_q k0 k1 k2 k3).2.2.1 ∧
    F2 (Int32.ofNat k0) (Int32.ofNat k1) (Int32.ofNat k2) (Int32.ofNat k3) 3 (Int32.ofNat k3) = Int32.ofNat (own_q k0 k1 k2 k3).2.2.2 := by
  unfold F2 own_q
  simp only [own_F1 h0 h0, own_F1 h0 h1, own_F1 h0 h2, own_F1 h0 h3, own_F1 h1 h0, own_F1 h1 h1, own_F1 h1 h2, own_F1 h1 h3, own_F1 h2 h0, own_F1 h2 h1, own_F1 h2 h2, own_F1 h2 h3, own_F1 h3 h0, own_F1 h3 h1, own_F1 h3 h2, own_F1 h3 h3, own_add,
    show ((0 : Int32) < 0) = False from by decide, show ((1 : Int32) < 0) = False from by decide, show ((2 : Int32) < 0) = False from by decide, show ((3 : Int32) < 0) = False from by decide,
    show ((0 : Int32) < 1) = True from by decide, show ((1 : Int32) < 1) = False from by decide, show ((2 : Int32) < 1) = False from by decide, show ((3 : Int32) < 1) = False from by decide,
    show ((0 : Int32) < 2) = True from by decide, show ((1 : Int32) < 2) = True from by decide, show ((2 : Int32) < 2) = False from by decide, show ((3 : Int32) < 2) = False from by decide,
    show ((0 : Int32) < 3) = True from by decide, show ((1 : Int32) < 3) = True from by decide, show ((2 : Int32) < 3) = True from by decide, show ((3 : Int32) < 3) = False from by decide, if_true, if_false]
  rw [own_bc k1 k0, own_bc k2 k0, own_bc k2 k1, own_bc k3 k0, own_bc k3 k1, own_bc k3 k2]
  refine ⟨congrArg _ ?_, congrArg _ ?_, congrArg _ ?_, congrArg _ ?_⟩ <;> omega
theorem own_wt4 {zs : List Int32} (hz : zs.length = 4) {q : Nat} (hq : q < 4) (x : Int32) : Own.wt zs (Int32.ofNat q) x = some (zs.set q x) := by
  unfold Own.wt
  rw [hz, own_toInt (by omega), if_pos (by omega)]
  simp [Own.si, own_clamp (show q < 1000 by omega)]
theorem own_byKey (B : Nat) (hB : B ≤ 8) (i0 i1 i2 i3 : Int32) (xk : List Int32) (k0 k1 k2 k3 : Nat) (h0 : Own.rd xk i0 = some (Int32.ofNat k0)) (h1 : Own.rd xk i1 = some (Int32.ofNat k1)) (h2 : Own.rd xk i2 = some (Int32.ofNat k2)) (h3 : Own.rd xk i3 = some (Int32.ofNat k3))
    (b0 : k0 < B) (b1 : k1 < B) (b2 : k2 < B) (b3 : k3 < B) :
    M_byKey (Int32.ofNat B) [i0, i1, i2, i3] xk = some ((((([0, 0, 0, 0] : List Int32).set (own_q k0 k1 k2 k3).1 i0).set (own_q k0 k1 k2 k3).2.1 i1).set (own_q k0 k1 k2 k3).2.2.1 i2).set (own_q k0 k1 k2 k3).2.2.2 i3) := by
  unfold M_byKey
  have m1 : Own.mk 9 (Int32.ofNat B + (1 : Int32)) = some (own_tab (B + 1) fun _ => 0) := by
    rw [own_add1]
    unfold Own.mk
    rw [own_toInt (by omega), if_pos (by omega), own_clamp (by omega)]
    congr 1
    unfold own_tab
    rw [List.map_const']
    simp
  have m2 : Own.mk 4 (4 : Int32) = some [0, 0, 0, 0] := rfl
  have m3 : Own.ln [i0, i1, i2, i3] = 4 := rfl
  rw [m1]
  simp only [Option.bind_some, m2, m3]
  rw [own_lp1 (n := B + 1) (by omega) i0 i1 i2 i3 xk k0 k1 k2 k3 h0 h1 h2 h3 (by omega) (by omega) (by omega) (by omega)]
  simp only [Option.bind_some]
  have e2 := own_lp2 (n := B + 1) (by omega) (fun y => 0 + own_b (y = k0 + 1) + own_b (y = k1 + 1) + own_b (y = k2 + 1) + own_b (y = k3 + 1)) 16 1 (by omega) (by omega) (by omega)
  have e3 : (own_tab (B + 1) fun y => if y < 1 then own_S (fun y => 0 + own_b (y = k0 + 1) + own_b (y = k1 + 1) + own_b (y = k2 + 1) + own_b (y = k3 + 1)) y else 0 + own_b (y = k0 + 1) + own_b (y = k1 + 1) + own_b (y = k2 + 1) + own_b (y = k3 + 1)) = own_tab (B + 1) fun y => 0 + own_b (y = k0 + 1) + own_b (y = k1 + 1) + own_b (y = k2 + 1) + own_b (y = k3 + 1) := by
    unfold own_tab
    apply List.map_congr_left
    intro y hy
    by_cases q : y < 1
    · obtain rfl : y = 0 := by omega
      rfl
    · show Int32.ofNat (if y < 1 then _ else _) = _
      rw [if_neg q]
  rw [e3] at e2
  rw [show (1 : Int32) = Int32.ofNat 1 from rfl, e2]
  simp only [Option.bind_some]
  rw [own_lp3 (n := B + 1) (by omega) i0 i1 i2 i3 xk [0, 0, 0, 0] k0 k1 k2 k3 _ h0 h1 h2 h3 (by omega) (by omega) (by omega) (by omega)]
  simp only [own_S4]
  obtain ⟨q0, q1, q2, q3⟩ := own_q_lt k0 k1 k2 k3
  rw [show own_b (k0 < k0) + own_b (k1 < k0) + own_b (k2 < k0) + own_b (k3 < k0) = (own_q k0 k1 k2 k3).1 from rfl, own_wt4 rfl q0]
  simp only [Option.bind_some]
  rw [show own_b (k0 < k1) + own_b (k1 < k1) + own_b (k2 < k1) + own_b (k3 < k1) + own_b (k1 = k0) = (own_q k0 k1 k2 k3).2.1 from rfl, own_wt4 (by simp) q1]
  simp only [Option.bind_some]
  rw [show own_b (k0 < k2) + own_b (k1 < k2) + own_b (k2 < k2) + own_b (k3 < k2) + own_b (k2 = k0) + own_b (k2 = k1) = (own_q k0 k1 k2 k3).2.2.1 from rfl, own_wt4 (by simp) q2]
  simp only [Option.bind_some]
  rw [show own_b (k0 < k3) + own_b (k1 < k3) + own_b (k2 < k3) + own_b (k3 < k3) + own_b (k3 = k0) + own_b (k3 = k1) + own_b (k3 = k2) = (own_q k0 k1 k2 k3).2.2.2 from rfl, own_wt4 (by simp) q3]
theorem own_key (x : Int32) (bd : Int32) (B : Nat) (hbd : bd = Int32.ofNat B) (h1 : 1 ≤ B) (h2 : B ≤ 8) : ∃ k, k < B ∧ ((x &&& (7 : Int32)) - ((x &&& (7 : Int32)) / bd) * bd) = Int32.ofNat k := by
  have hm := Jvm.Kit.i32_mask x 7 (k := 3) (by decide) (by decide)
  have hB : bd.toInt = B := by rw [hbd]; exact own_toInt (by omega)
  have hr := own_rem (x := x &&& 7) (y := bd) (by omega) (by omega)
  rw [hm, hB] at hr
  have hlt : x.toInt % 2 ^ 3 % (B : Int) < B := Int.emod_lt_of_pos _ (by omega)
  have hge : 0 ≤ x.toInt % 2 ^ 3 % (B : Int) := Int.emod_nonneg _ (by omega)
  refine ⟨(x.toInt % 2 ^ 3 % (B : Int)).toNat, by omega, ?_⟩
  apply Int32.toInt_inj.mp
  rw [hr, own_toInt (by omega)]; omega
theorem own_pick (i : Int32) (hi : i = 0 ∨ i = 1 ∨ i = 2 ∨ i = 3) (B a b c d : Nat) (ha : a < B) (hb : b < B) (hc : c < B) (hd : d < B) : ∃ k, k < B ∧ Own.rd [Int32.ofNat a, Int32.ofNat b, Int32.ofNat c, Int32.ofNat d] i = some (Int32.ofNat k) := by
  rcases hi with rfl | rfl | rfl | rfl
  · exact ⟨a, ha, rfl⟩
  · exact ⟨b, hb, rfl⟩
  · exact ⟨c, hc, rfl⟩
  · exact ⟨d, hd, rfl⟩
theorem own_m4 (x : Int32) : (x &&& (3 : Int32)) = 0 ∨ (x &&& (3 : Int32)) = 1 ∨ (x &&& (3 : Int32)) = 2 ∨ (x &&& (3 : Int32)) = 3 := by
  have h := Jvm.Kit.i32_mask x 3 (k := 2) (by decide) (by decide)
  simp only [← Int32.toInt_inj, h, show (0 : Int32).toInt = 0 from rfl, show (1 : Int32).toInt = 1 from rfl, show (2 : Int32).toInt = 2 from rfl, show (3 : Int32).toInt = 3 from rfl]
  omega
theorem own_set_len (xs : List Int32) (a b c d : Nat) (x y z w : Int32) (h : xs.length = 4) : ((((xs.set a x).set b y).set c z).set d w).length = 4 := by simp [h]
theorem own_law (p0 p1 p2 : Int32) : M_law p0 p1 p2 = some 1 := by
  unfold M_law
  obtain ⟨B, hB1, hB2, hBd⟩ : ∃ B : Nat, 1 ≤ B ∧ B ≤ 8 ∧ ((1 : Int32) + (p2 &&& (7 : Int32))) = Int32.ofNat B := by
    have hm := Jvm.Kit.i32_mask p2 7 (k := 3) (by decide) (by decide)
    have l1 : (1 : Int32).toInt = 1 := rfl
    have ha := Jvm.Kit.i32_add (p := 1) (q := p2 &&& 7) (by rw [l1, hm]; omega) (by rw [l1, hm]; omega)
    refine ⟨(1 + p2.toInt % 2 ^ 3).toNat, by omega, by omega, ?_⟩
    apply Int32.toInt_inj.mp
    rw [ha, own_toInt (by omega), l1, hm]; omega
  simp only [Option.bind_some, hBd]
  obtain ⟨a, ha, ea⟩ := own_key p1 _ B rfl hB1 hB2
  obtain ⟨b, hb, eb⟩ := own_key (p1.toUInt32 >>> ((3 : Int32) &&& 31).toUInt32).toInt32 _ B rfl hB1 hB2
  obtain ⟨c, hc, ec⟩ := own_key (p1.toUInt32 >>> ((6 : Int32) &&& 31).toUInt32).toInt32 _ B rfl hB1 hB2
  obtain ⟨d, hd, ed⟩ := own_key (p1.toUInt32 >>> ((9 : Int32) &&& 31).toUInt32).toInt32 _ B rfl hB1 hB2
  simp only [ea, eb, ec, ed]
  have j0 := own_m4 p0
  have j1 := own_m4 (p0.toUInt32 >>> ((2 : Int32) &&& 31).toUInt32).toInt32
  have j2 := own_m4 (p0.toUInt32 >>> ((4 : Int32) &&& 31).toUInt32).toInt32
  have j3 := own_m4 (p0.toUInt32 >>> ((6 : Int32) &&& 31).toUInt32).toInt32
  generalize (p0 &&& (3 : Int32)) = i0 at *
  generalize ((p0.toUInt32 >>> ((2 : Int32) &&& 31).toUInt32).toInt32 &&& (3 : Int32)) = i1 at *
  generalize ((p0.toUInt32 >>> ((4 : Int32) &&& 31).toUInt32).toInt32 &&& (3 : Int32)) = i2 at *
  generalize ((p0.toUInt32 >>> ((6 : Int32) &&& 31).toUInt32).toInt32 &&& (3 : Int32)) = i3 at *
  have mk4 : Own.mk 4 (4 : Int32) = some [0, 0, 0, 0] := rfl
  have w0 : ∀ x y z w v : Int32, Own.wt [x, y, z, w] 0 v = some [v, y, z, w] := fun _ _ _ _ _ => rfl
  have w1 : ∀ x y z w v : Int32, Own.wt [x, y, z, w] 1 v = some [x, v, z, w] := fun _ _ _ _ _ => rfl
  have w2 : ∀ x y z w v : Int32, Own.wt [x, y, z, w] 2 v = some [x, y, v, w] := fun _ _ _ _ _ => rfl
  have w3 : ∀ x y z w v : Int32, Own.wt [x, y, z, w] 3 v = some [x, y, z, v] := fun _ _ _ _ _ => rfl
  have r0 : ∀ x y z w : Int32, Own.rd [x, y, z, w] 0 = some x := fun _ _ _ _ => rfl
  have r1 : ∀ x y z w : Int32, Own.rd [x, y, z, w] 1 = some y := fun _ _ _ _ => rfl
  have r2 : ∀ x y z w : Int32, Own.rd [x, y, z, w] 2 = some z := fun _ _ _ _ => rfl
  have r3 : ∀ x y z w : Int32, Own.rd [x, y, z, w] 3 = some w := fun _ _ _ _ => rfl
  simp only [mk4, w0, w1, w2, w3, Option.bind_some]
  obtain ⟨k0, b0, e0⟩ := own_pick i0 j0 B a b c d ha hb hc hd
  obtain ⟨k1, b1, e1⟩ := own_pick i1 j1 B a b c d ha hb hc hd
  obtain ⟨k2, b2, e2⟩ := own_pick i2 j2 B a b c d ha hb hc hd
  obtain ⟨k3, b3, e3⟩ := own_pick i3 j3 B a b c d ha hb hc hd
  have hby := own_byKey B hB2 i0 i1 i2 i3 _ k0 k1 k2 k3 e0 e1 e2 e3 b0 b1 b2 b3
  simp only [e0, e1, e2, e3, hby, Option.bind_some]
  obtain ⟨f0, f1, f2, f3⟩ := own_F2 k0 k1 k2 k3 (by omega) (by omega) (by omega) (by omega)
  obtain ⟨q0, q1, q2, q3⟩ := own_q_lt k0 k1 k2 k3
  rw [f0, f1, f2, f3, own_wt4 rfl q0]
  simp only [Option.bind_some]
  rw [own_wt4 (by simp) q1]
  simp only [Option.bind_some]
  rw [own_wt4 (by simp) q2]
  simp only [Option.bind_some]
  rw [own_wt4 (by simp) q3]
  simp only [Option.bind_some]
  have hl := own_set_len [0, 0, 0, 0] (own_q k0 k1 k2 k3).1 (own_q k0 k1 k2 k3).2.1 (own_q k0 k1 k2 k3).2.2.1 (own_q k0 k1 k2 k3).2.2.2 i0 i1 i2 i3 rfl
  generalize (((([0, 0, 0, 0] : List Int32).set (own_q k0 k1 k2 k3).1 i0).set (own_q k0 k1 k2 k3).2.1 i1).set (own_q k0 k1 k2 k3).2.2.1 i2).set (own_q k0 k1 k2 k3).2.2.2 i3 = Z at hl ⊢
  match Z, hl with
  | [x, y, z, w], _ =>
    simp only [r0, r1, r2, r3, Option.bind_some, show Own.ln [x, y, z, w] = 4 from rfl, if_true]

set_option maxRecDepth 65536 in
set_option maxHeartbeats 40000000 in
theorem comes_1 {Post : Tables → Env → Array Value → State → Outcome → State → Prop} (hpost : ∀ tb e args s v u, (limb_1_1.after args s (.returned v) u = true ∧ limb_1_2.after args s (.returned v) u = true ∧ True) → FrameEnd s (.returned v) u (Jvm.fieldLocs frame_1_writes args s ++ Jvm.arrayLocs frame_1_arrays args s ++ Jvm.staticLocs frame_1_statics s) 24 128 → Post tb e args s (.returned v) u) :
    ArmFor flags0 classFile x code maxLocals ret World_1 tables_1 room_1 Calls_1 rest_1 Pre_1 Post := by
  intro l hfl _ _ p e ha hc hk s m args below hf hA hF happ hP
  obtain ⟨hcalls, hrest, hpre⟩ := hP
  obtain ⟨-, -, -, hnamed, -, -, -, hat⟩ := (Spec.applies_iff hf).mp happ
  obtain ⟨hg, hn⟩ := and_e (Cond.before_iff.mp (show (Jvm.Cond.and given_1 narrow_1).before args s = true from hpre))
  obtain ⟨hcount, hg0⟩ := and_e hg
  obtain ⟨ga0, hg1⟩ := and_e hg0
  obtain ⟨ga1, hg2⟩ := and_e hg1
  obtain ⟨w0, w1, w2, rfl⟩ : ∃ w0 w1 w2 : Value, args = #[w0, w1, w2] := by
    have hs : args.size = 3 := by simpa [Cond.value, given_1] using hcount
    obtain ⟨L⟩ := args
    match L, hs with
    | [w0, w1, w2], _ => exact ⟨w0, w1, w2, rfl⟩
  have hw := fun d (hd : d ∈ tables_1) => atoms_spec (ws := Jvm.Cond.code x code maxLocals ret :: tables_1) hat d (List.mem_cons_of_mem _ hd)
  have hfit : Fit s := fun {y c} hc i hi => by
    obtain ⟨ha, rfl⟩ := Array.getElem?_eq_some_iff.mp hc
    have q := List.all_eq_true.mp ((Array.all_eq_true_iff_forall_mem.mp hF) _ (Array.getElem_mem ha)) i (List.mem_range.mpr hi)
    simpa [Array.getElem?_eq_getElem hi] using q
  obtain ⟨i0, ei0⟩ := is_v ga0
  obtain rfl : w0 = (.int i0) := Option.some.inj ei0
  obtain ⟨i1, ei1⟩ := is_v ga1
  obtain rfl : w1 = (.int i1) := Option.some.inj ei1
  obtain ⟨i2, ei2⟩ := is_v hg2
  obtain rfl : w2 = (.int i2) := Option.some.inj ei2
  obtain ⟨n, o, h1, h2, h3, _, L, rfl, ⟨rfl, N⟩, hq⟩ := rm0 l s _ hw tables_1 i0 i1 i2 (1 : Int32) s.heap s.heap.size (Nat.le_refl _) (own_law i0 i1 i2) p e ha hc hk s m _ below hf ((Spec.applies_iff_loose hf).mp happ).1 ⟨rfl, State.Warmed39.refl s, rfl⟩ trivial
  refine ⟨n, _, h1, h2, h3, hpost _ _ _ _ _ _ ⟨Cond.after_iff.mpr rfl, Cond.after_iff.mpr (eq_i res_at (Term.int_eval (1)) rfl), trivial⟩ ⟨hq.1, hq.2.1, (hq.2.2.sift fun y hy => Or.inr (N y hy)).mono (by decide) (by decide)⟩⟩
theorem main_1_1 : Claimed_1_1 := comes_1 fun _ _ _ _ _ _ h hF => ⟨h.1, hF⟩
theorem main_1_2 : Claimed_1_2 := comes_1 fun _ _ _ _ _ _ h hF => ⟨h.2.1, hF⟩
end Jvm.Pilot.@@N@@
namespace Jvm.Pilot.@@N@@
open Jvm Jvm.ClassFile Sem Op Lib Jvm.Free Jvm.Stand Jvm.Pilot.@@N@@.Jvm.D
/-! MADE BY PROGRAM (witnessworld.py) out of the Statement's table words and the real class files: 9 classes; the members and pool entries that the words name. The judged class is class 1, her method 3. -/
namespace start1
open Jvm.ClassFile
def u (s : String) : CpInfo := .utf8 (stringToUtf16 s)
/-- a pool by its gaps: so many unusable entries, then the entry; so many at the end -/
def gap : Nat → List CpInfo → List CpInfo
  | 0, r => r
  | n + 1, r => .unusable :: gap n r
def poolList (es : List (Nat × CpInfo)) (last : Nat) : List CpInfo := es.foldr (fun e r => gap e.1 (e.2 :: r)) (gap last [])
def pool (es : List (Nat × CpInfo)) (last : Nat) : Array CpInfo := ⟨poolList es last⟩
def fileOf (pool : Array CpInfo) (this : Nat) (attrs : Array Attribute := #[]) (ms : Array MethodInfo := #[]) (fl : Nat := 33) (sup : Nat := 0) (ifs : Array Nat := #[]) (fds : Array FieldInfo := #[]) : ClassFile where
  minorVersion := 0
  majorVersion := 65
  constantPool := pool
  accessFlags := fl
  thisClass := this
  superClass := sup
  interfaces := ifs
  fields := fds
  methods := ms
  attributes := attrs
def plain (name : String) (sup : Option ClassId) : Class where
  name := name
  kind := .ordinary
  loader := none
  accessFlags := 33
  super := sup
  interfaces := #[]
  cf := none
  fields := #[]
  methods := #[]
  instanceTypes := #[]
  staticTypes := #[]
  resolved := #[]
  callSites := []
  init := .initialized
  statics := none
  mirror := none

def pool0 : Array CpInfo := pool [(5, u "<init>"), (0, u "()V"), (1, .class_ 10), (1, u "java/lang/Object")] 113

def k0m0 : Method := { name := "<init>", desc := "()V", sig := { parameters := [], returnType := none }, accessFlags := 1, code := none }
/-- java/lang/Object -/
def k0 : Class := { plain "java/lang/Object" none with
  accessFlags := 33
  interfaces := #[]
  cf := some (fileOf pool0 8 #[] #[{ accessFlags := 1, nameIndex := 5, descriptorIndex := 6, attributes := #[] }] 33 0 #[] #[])
  fields := #[]
  methods := #[k0m0]
  instanceTypes := #[]
  staticTypes := #[]
  resolved := Array.replicate 124 none
  statics := none }

def pool1 : Array CpInfo := pool [(2, .class_ 4), (1, u "java/lang/Object"), (0, u "<init>"), (0, u "()V"), (0, .methodref 8 9), (0, .class_ 10), (0, .nameAndType 11 12), (0, u "com/example/pareto_workflow_scheduler/paretoworkflowscheduler/algorithm/SortsByKeyPinLaw"), (0, u "before"), (0, u "(IIII)I"), (0, .methodref 8 14), (0, .nameAndType 15 16), (0, u "pos"), (0, u "(IIIIII)I"), (0, .methodref 18 19), (0, .class_ 20), (0, .nameAndType 21 22), (0, u "com/example/pareto_workflow_scheduler/paretoworkflowscheduler/algorithm/Sorts"), (0, u "byKey"), (0, u "([I[II)[I"), (3, u "law"), (0, u "(III)Z")] 4

def k1m0 : Method := { name := "<init>", desc := "()V", sig := { parameters := [], returnType := none }, accessFlags := 2, code := none }
def k1c1 : Code := { maxStack := 2, maxLocals := 4, code := method_2_code, exceptionTable := #[], attributes := #[] }
def k1m1 : Method := { name := "before", desc := "(IIII)I", sig := { parameters := [.int, .int, .int, .int], returnType := some .int }, accessFlags := 10, code := some k1c1 }
def k1c2 : Code := { maxStack := 5, maxLocals := 6, code := method_3_code, exceptionTable := #[], attributes := #[] }
def k1m2 : Method := { name := "pos", desc := "(IIIIII)I", sig := { parameters := [.int, .int, .int, .int, .int, .int], returnType := some .int }, accessFlags := 10, code := some k1c2 }
def k1c3 : Code := { maxStack := 7, maxLocals := 16, code := code, exceptionTable := #[], attributes := #[] }
def k1m3 : Method := { name := "law", desc := "(III)Z", sig := { parameters := [.int, .int, .int], returnType := some .boolean }, accessFlags := 9, code := some k1c3 }
/-- com/example/pareto_workflow_scheduler/paretoworkflowscheduler/algorithm/SortsByKeyPinLaw -/
def k1 : Class := { plain "com/example/pareto_workflow_scheduler/paretoworkflowscheduler/algorithm/SortsByKeyPinLaw" (some 0) with
  accessFlags := 49
  interfaces := #[]
  cf := some (fileOf pool1 8 #[] #[{ accessFlags := 2, nameIndex := 5, descriptorIndex := 6, attributes := #[] }, { accessFlags := 10, nameIndex := 11, descriptorIndex := 12, attributes := #[] }, { accessFlags := 10, nameIndex := 15, descriptorIndex := 16, attributes := #[] }, { accessFlags := 9, nameIndex := 26, descriptorIndex := 27, attributes := #[] }] 49 2 #[] #[])
  fields := #[]
  methods := #[k1m0, k1m1, k1m2, k1m3]
  instanceTypes := #[]
  staticTypes := #[]
  resolved := Array.replicate 32 none
  statics := none }

def pool2 : Array CpInfo := pool [(2, .class_ 4), (1, u "java/lang/Object"), (0, u "<init>"), (0, u "()V"), (7, .class_ 16), (1, u "com/example/pareto_workflow_scheduler/paretoworkflowscheduler/algorithm/Sorts"), (7, .class_ 26), (1, u "com/example/pareto_workflow_scheduler/paretoworkflowscheduler/algorithm/Sorts$IndexOrder"), (6, u "byKey"), (0, u "([I[II)[I")] 5

def k2m0 : Method := { name := "<init>", desc := "()V", sig := { parameters := [], returnType := none }, accessFlags := 2, code := none }
def k2c1 : Code := { maxStack := 6, maxLocals := 9, code := prog_32_method_5_code, exceptionTable := #[], attributes := #[] }
def k2m1 : Method := { name := "byKey", desc := "([I[II)[I", sig := { parameters := [(.array .int), (.array .int), .int], returnType := some (.array .int) }, accessFlags := 8, code := some k2c1 }
/-- com/example/pareto_workflow_scheduler/paretoworkflowscheduler/algorithm/Sorts -/
def k2 : Class := { plain "com/example/pareto_workflow_scheduler/paretoworkflowscheduler/algorithm/Sorts" (some 0) with
  accessFlags := 48
  interfaces := #[]
  cf := some (fileOf pool2 14 #[.nestMembers #[24]] #[{ accessFlags := 2, nameIndex := 5, descriptorIndex := 6, attributes := #[] }, { accessFlags := 8, nameIndex := 33, descriptorIndex := 34, attributes := #[] }] 48 2 #[] #[])
  fields := #[]
  methods := #[k2m0, k2m1]
  instanceTypes := #[]
  staticTypes := #[]
  resolved := Array.replicate 40 none
  statics := none }

def pool3 : Array CpInfo := pool [(1, u "java/lang/Cloneable"), (0, .class_ 1), (0, u "java/lang/Object"), (0, .class_ 3)] 3

/-- java/lang/Cloneable -/
def k3 : Class := { plain "java/lang/Cloneable" (some 0) with
  accessFlags := 1537
  interfaces := #[]
  cf := some (fileOf pool3 2 #[] #[] 1537 4 #[] #[])
  fields := #[]
  methods := #[]
  instanceTypes := #[]
  staticTypes := #[]
  resolved := Array.replicate 8 none
  statics := none }

def pool4 : Array CpInfo := pool [(1, u "java/io/Serializable"), (0, .class_ 1), (0, u "java/lang/Object"), (0, .class_ 3)] 3

/-- java/io/Serializable -/
def k4 : Class := { plain "java/io/Serializable" (some 0) with
  accessFlags := 1537
  interfaces := #[]
  cf := some (fileOf pool4 2 #[] #[] 1537 4 #[] #[])
  fields := #[]
  methods := #[]
  instanceTypes := #[]
  staticTypes := #[]
  resolved := Array.replicate 8 none
  statics := none }

/-- the primitive byte -/
def k5 : Class := { plain "byte" none with kind := .primitive 'B', accessFlags := 0x411 }
/-- [B -/
def k6 : Class := { plain "[B" (some 0) with kind := .array 5 .byte, interfaces := #[3, 4], accessFlags := 1041 }

/-- the primitive int -/
def k7 : Class := { plain "int" none with kind := .primitive 'I', accessFlags := 0x411 }
/-- [I -/
def k8 : Class := { plain "[I" (some 0) with kind := .array 7 .int, interfaces := #[3, 4], accessFlags := 1041 }

def heap : Heap := #[]
def classes : Array Class := #[k0, k1, k2, k3, k4, k5, k6, k7, k8]
def interned : List (Array UInt16 × Addr) := []
def slotsUsed : Nat := 0
def theMethod : MethodId := ⟨1, 3⟩
def args0 : Array Value := #[.int 27, .int 90, .int 5]
def aboutOver (below : List Frame) : State where
  vm := { classes := classes, interned := interned.toArray }
  heap := heap
  slotsUsed := slotsUsed
  threads := #[{ frames := .invoking theMethod args0 :: below }]
def below0 : List Frame := [.native { method := ⟨0, 0⟩, args := #[] }]
def about1 : State := aboutOver below0
def p0 : Program := .bare "" "" ""
def e0 : Env := launch0.env 0 0 0
theorem w_frames : about1.frames = Frame.invoking theMethod args0 :: below0 := rfl
set_option maxRecDepth 65536 in
theorem w_args : argsFit about1.vm theMethod args0 = true := by decide +kernel
set_option maxRecDepth 65536 in
theorem w_heap : heapFits about1 = true := by decide +kernel
set_option maxRecDepth 65536 in
theorem w_runnable : about1.curStatus? = some .runnable := by decide +kernel
set_option maxRecDepth 65536 in
theorem w_alone : about1.alone = true := by decide +kernel
set_option maxRecDepth 65536 in
theorem w_named : about1.methodNamed? x = some theMethod := by decide +kernel
set_option maxRecDepth 65536 in
theorem w_hears : about1.hears theMethod below0 = true := by decide +kernel
set_option maxRecDepth 65536 in
theorem w_ripe : about1.ripe theMethod args0 below0 = true := by decide +kernel
theorem w_running : about1.status = .running := rfl
set_option maxRecDepth 65536 in
theorem w_room : about1.hasRoom e0.platform room_1 = true :=
  launch0.hasRoom_least _ room_1 (by decide +kernel) (by decide +kernel) (by decide +kernel) (by decide +kernel) (by decide +kernel) (by decide +kernel)
theorem allAtoms_all (ts : List Jvm.Cond) (a : Array Jvm.Value) (st : Jvm.State) : (allAtoms ts).before a st = ts.all (fun c => c.before a st) := by
  induction ts with
  | nil => rfl
  | cons c t ih =>
    show (Jvm.Cond.and c (allAtoms t)).before a st = _
    rw [Jvm.Cond.before_and, ih, List.all_cons]
def words1 : List Jvm.Cond := Jvm.Cond.code x code maxLocals ret :: tables_1
/-- a 'code' word, met by the world's own term for the bytes: nothing is compared byte by byte -/
theorem code_word {y : MethodName} {bytes : ByteArray} {mx : Nat} {rt : Option FieldType} {a : Array Value} {s : State} {m : MethodId} {meth : Method} {c : Code} (h1 : s.methodNamed? y = some m) (h2 : s.vm.method? m = some meth) (h3 : meth.code = some c) (h4 : c.code = bytes)
    (h5 : (c.maxLocals == mx && c.exceptionTable.isEmpty && decide (c.maxStack ≤ mostOperands) && decide (meth.sig.returnType = rt) && !meth.locks && decide (parseMethodDescriptor y.desc = some meth.sig)) = true) : (Jvm.Cond.code y bytes mx rt).before a s = true := by
  simp only [Bool.and_eq_true, beq_iff_eq, Bool.not_eq_true', decide_eq_true_eq] at h5
  obtain ⟨⟨⟨⟨⟨g1, g2⟩, g3⟩, g4⟩, g5⟩, g6⟩ := h5
  simp [Cond.before, Cond.holds, Cond.value, h1, h2, h3, h4, g1, g2, g3, g4, g5, g6]
def isCode : Jvm.Cond → Bool
  | .code _ _ _ _ => true
  | _ => false
theorem all_split {L : List Jvm.Cond} {P : Jvm.Cond → Bool} (h1 : L.all (fun c => isCode c || P c) = true) (h2 : ∀ c ∈ L.filter isCode, P c = true) : L.all P = true := by
  refine List.all_eq_true.mpr fun c hc => ?_
  have h := List.all_eq_true.mp h1 c hc
  rcases Bool.eq_false_or_eq_true (isCode c) with hi | hi
  · exact h2 c (List.mem_filter.mpr ⟨hc, hi⟩)
  · simpa [hi] using h
set_option maxRecDepth 65536 in
theorem w_c0 : (Jvm.Cond.code x code maxLocals ret).before args0 about1 = true := code_word (m := ⟨1, 3⟩) (meth := k1m3) (c := k1c3) (by decide +kernel) rfl rfl rfl (by decide +kernel)
set_option maxRecDepth 65536 in
theorem w_c1 : (Jvm.Cond.code ({ cls := "com/example/pareto_workflow_scheduler/paretoworkflowscheduler/algorithm/SortsByKeyPinLaw", name := "pos", desc := "(IIIIII)I" } : Jvm.MethodName) method_3_code (6 : Nat) (Option.some Jvm.ClassFile.FieldType.int)).before args0 about1 = true := code_word (m := ⟨1, 2⟩) (meth := k1m2) (c := k1c2) (by decide +kernel) rfl rfl rfl (by decide +kernel)
set_option maxRecDepth 65536 in
theorem w_c2 : (Jvm.Cond.code ({ cls := "com/example/pareto_workflow_scheduler/paretoworkflowscheduler/algorithm/SortsByKeyPinLaw", name := "before", desc := "(IIII)I" } : Jvm.MethodName) method_2_code (4 : Nat) (Option.some Jvm.ClassFile.FieldType.int)).before args0 about1 = true := code_word (m := ⟨1, 1⟩) (meth := k1m1) (c := k1c1) (by decide +kernel) rfl rfl rfl (by decide +kernel)
set_option maxRecDepth 65536 in
theorem w_c3 : (Jvm.Cond.code ({ cls := "com/example/pareto_workflow_scheduler/paretoworkflowscheduler/algorithm/Sorts", name := "byKey", desc := "([I[II)[I" } : Jvm.MethodName) prog_32_method_5_code (9 : Nat) (Option.some (Jvm.ClassFile.FieldType.array Jvm.ClassFile.FieldType.int))).before args0 about1 = true := code_word (m := ⟨2, 1⟩) (meth := k2m1) (c := k2c1) (by decide +kernel) rfl rfl rfl (by decide +kernel)
def codes1 : List Jvm.Cond := [Jvm.Cond.code x code maxLocals ret, Jvm.Cond.code ({ cls := "com/example/pareto_workflow_scheduler/paretoworkflowscheduler/algorithm/SortsByKeyPinLaw", name := "pos", desc := "(IIIIII)I" } : Jvm.MethodName) method_3_code (6 : Nat) (Option.some Jvm.ClassFile.FieldType.int), Jvm.Cond.code ({ cls := "com/example/pareto_workflow_scheduler/paretoworkflowscheduler/algorithm/SortsByKeyPinLaw", name := "before", desc := "(IIII)I" } : Jvm.MethodName) method_2_code (4 : Nat) (Option.some Jvm.ClassFile.FieldType.int), Jvm.Cond.code ({ cls := "com/example/pareto_workflow_scheduler/paretoworkflowscheduler/algorithm/Sorts", name := "byKey", desc := "([I[II)[I" } : Jvm.MethodName) prog_32_method_5_code (9 : Nat) (Option.some (Jvm.ClassFile.FieldType.array Jvm.ClassFile.FieldType.int))]
set_option maxRecDepth 65536 in
theorem codes_eq : words1.filter isCode = codes1 := rfl
theorem w_codes : ∀ c ∈ words1.filter isCode, c.before args0 about1 = true := by
  rw [codes_eq]
  intro c hc
  simp only [codes1, List.mem_cons, List.not_mem_nil, or_false] at hc
  rcases hc with rfl | rfl | rfl | rfl
  · exact w_c0
  · exact w_c1
  · exact w_c2
  · exact w_c3
set_option maxRecDepth 65536 in
theorem w_t1 : words1.all (fun c => isCode c || c.before args0 about1) = true := by decide +kernel
theorem w_tables : (allAtoms (Jvm.Cond.code x code maxLocals ret :: tables_1)).before args0 about1 = true := by
  rw [allAtoms_all]
  show words1.all (fun c => c.before args0 about1) = true
  refine all_split ?_ w_codes
  rw [w_t1]
set_option maxRecDepth 65536 in
theorem w_case : (Jvm.Cond.and given_1 narrow_1).before args0 about1 = true := by decide +kernel
theorem w_applies : (headSpec (Jvm.Cond.code x code maxLocals ret :: tables_1) room_1).applies x e0.platform about1 = true :=
  (Spec.applies_iff w_frames).mpr ⟨w_running, w_runnable, w_alone, w_named, w_hears, w_ripe, w_room, w_tables⟩
theorem atStart : AtStart classFile x code maxLocals ret World_1 tables_1 room_1 Calls_1 rest_1 Pre_1 launch0 p0 e0 about1 theMethod args0 below0 :=
  ⟨lists_1, trivial, launch0.admits_env _ _ _, launch0.least_env, fairChoices_fair.cas, fairChoices_fair.clock, w_frames, w_args, w_heap, w_applies, trivial, trivial, w_case⟩
end start1
theorem witness_1 : WitnessClaimed_1 := ⟨start1.p0, start1.e0, start1.about1, start1.theMethod, start1.args0, start1.below0, start1.atStart⟩
end Jvm.Pilot.@@N@@
