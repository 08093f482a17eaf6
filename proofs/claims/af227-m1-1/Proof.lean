import JvmDerived
import JvmDerived.Pilot.@@N@@Statement
import JvmDerived.Pilot.@@N@@Code
set_option linter.unusedVariables false
set_option linter.unusedSimpArgs false
namespace Jvm.Pilot.@@N@@
open Jvm Jvm.ClassFile Sem Op Lib Jvm.Free Jvm.Stand Jvm.LawKit Jvm.RoadKit Bundle Jvm.Pilot.@@N@@.Jvm.D
theorem own_g {Z : State} {a0 : Array Value} (hw : ∀ d ∈ tables_1, d.before a0 Z = true) {i : Nat} {d : Jvm.Cond} (h : tables_1[i]? = some d) : d.before a0 Z = true := hw _ (List.mem_of_getElem? h)
/-- the walk from the frame g in the state T comes to an end of which K holds -/
def own_E (p : Program) (e : Env) (below : List Frame) (K : Outcome → State → Prop) (T : State) (g : JFrame) : Prop := ∃ s₂ o, Steps p.tables e below (T.setTop g) s₂ ∧ s₂.status = .running ∧ Ended s₂ below o ∧ K o s₂
def own_K (s : State) (Q : Option Value → Heap → List Loc → Prop) (kc ks : Nat) (o : Outcome) (U : State) : Prop := ∃ v L, o = .returned v ∧ Q v U.heap L ∧ FrameEnd s o U L kc ks
section OwnKit
variable {p : Program} {l : Launch} {e : Env} {R : Room} {s : State} {m : MethodId} {args : Array Value} {below : List Frame} {meth : Method} {c : Code} {T T' : State} {locs : List Loc} {cells slots : Nat} {K : Outcome → State → Prop} {Z : State} {h h' : Heap}
theorem own_S {g : JFrame} (g' : JFrame) (st : ∀ t, Steps p.tables e below (T'.setTop g') t → Steps p.tables e below (T.setTop g) t) (k : own_E p e below K T' g') : own_E p e below K T g := by
  obtain ⟨s₂, o, h1, h2⟩ := k
  exact ⟨s₂, o, st _ h1, h2⟩
theorem own_s {g : JFrame} {t : State} (g' : JFrame) (st : ∀ t, Steps p.tables e below (T'.setTop g') t → Steps p.tables e below (T.setTop g) t) (k : Steps p.tables e below (T'.setTop g') t) : Steps p.tables e below (T.setTop g) t := st t k
theorem own_ret {Q : Option Value → Heap → List Loc → Prop} {kc ks : Nat} (X : Stand p l e R s m args below meth c T locs cells slots) (hx : p.tables.exec = Jvm.exec) (hlk : meth.locks = false) {pc : Nat} {Ls : Array Slot} {w : Value} {t : FieldType} {i : Instr} {rest : List Value} (hret : meth.sig.returnType = some t) (hn : narrow t w = w)
    (hi : (i = .ireturn ∧ (t = .int ∨ t = .boolean ∨ t = .byte ∨ t = .char ∨ t = .short) ∧ ∃ z, w = .int z) ∨ (i = .lreturn ∧ t = .long ∧ ∃ z, w = .long z) ∨ (i = .dreturn ∧ t = .double ∧ ∃ z, w = .double z) ∨ (i = .freturn ∧ t = .float ∧ ∃ z, w = .float z) ∨ (i = .areturn ∧ t.isReference = true ∧ w.isRef = true))
    (hd : decode c.code pc = .ok (i, 1)) (hQ : Q (some w) T.heap locs) (h1 : cells ≤ kc) (h2 : slots ≤ ks) : own_E p e below (own_K s Q kc ks) T (mkF m pc Ls (w :: rest)) := by
  obtain ⟨fs, hr, hrun, hended, hW, hsame⟩ := X.leave (v := some w) (fun h => by rw [hret] at h; cases h) hlk
  exact ⟨_, _, retOut X hx hret hn hi hd hr, hrun, hended, _, _, rfl, hQ, ⟨_, rfl⟩, hW, hsame.mono h1 h2⟩
theorem own_retN {Q : Option Value → Heap → List Loc → Prop} {kc ks : Nat} (X : Stand p l e R s m args below meth c T locs cells slots) (hx : p.tables.exec = Jvm.exec) (hlk : meth.locks = false) {pc : Nat} {Ls : Array Slot} {z : Int32} {t : FieldType} {rest : List Value} (hret : meth.sig.returnType = some t) (ht : t = .boolean ∨ t = .byte ∨ t = .char ∨ t = .short)
    (hd : decode c.code pc = .ok (.ireturn, 1)) (hQ : Q (some (.int (nar t z))) T.heap locs) (h1 : cells ≤ kc) (h2 : slots ≤ ks) : own_E p e below (own_K s Q kc ks) T (mkF m pc Ls (.int z :: rest)) := by
  obtain ⟨fs, hr, hrun, hended, hW, hsame⟩ := X.leave (v := some (.int (nar t z))) (fun h => by rw [hret] at h; cases h) hlk
  exact ⟨_, _, retN X hx hret ht hd hr, hrun, hended, _, _, rfl, hQ, ⟨_, rfl⟩, hW, hsame.mono h1 h2⟩
theorem own_ret0 {Q : Option Value → Heap → List Loc → Prop} {kc ks : Nat} (X : Stand p l e R s m args below meth c T locs cells slots) (hx : p.tables.exec = Jvm.exec) (hlk : meth.locks = false) {pc : Nat} {Ls : Array Slot} (hret : meth.sig.returnType = none)
    (hd : decode c.code pc = .ok (.return_, 1)) (hQ : Q none T.heap locs) (h1 : cells ≤ kc) (h2 : slots ≤ ks) : own_E p e below (own_K s Q kc ks) T (mkF m pc Ls []) := by
  obtain ⟨fs, hr, hrun, hended, hW, hsame⟩ := X.leave (v := none) (fun _ => rfl) hlk
  exact ⟨_, _, X.returnOut hx hret hd hr, hrun, hended, _, _, rfl, hQ, ⟨_, rfl⟩, hW, hsame.mono h1 h2⟩
theorem own_weak (X : Stand p l e R s m args below meth c T locs cells slots) {locs' : List Loc} {kc ks : Nat} (hl : ∀ y ∈ locs, y ∈ locs' ∨ s.heap.size ≤ y.base) (h1 : cells ≤ kc) (h2 : slots ≤ ks) : Stand p l e R s m args below meth c T locs' kc ks :=
  { X with same := (X.same.sift hl).mono h1 h2 }
theorem Sta_keep {C n d : String} {w : Value} {ws : List Addr} {n0 : Nat} (F : Sta Z h C n d w) (K : Keep h h' ws) (hn : ∀ a ∈ ws, ∀ cell : Cell, h[a]? = some cell → cell.vm.isStatics = false) : Sta Z h' C n d w := by
  obtain ⟨cf, i, k, f, st, cell, h1, h2, h3, h4, h5, h6, h7⟩ := F
  exact ⟨cf, i, k, f, st, cell, h1, h2, h3, h4, K.2.1 st cell h5 (fun q => by have := hn st q cell h5; rw [h6] at this; cases this), h6, h7⟩
theorem Ins_keep {a : Addr} {C : String} {b : Bool} {ws : List Addr} (F : Ins Z h a C b) (K : Keep h h' ws) : Ins Z h' a C b := by
  obtain ⟨cell, cT, h1, h2, h3⟩ := F
  obtain ⟨c', q1, q2, q3, -⟩ := K.2.2 a cell h1
  exact ⟨c', cT, q1, h2, by rw [q2, q3]; exact h3⟩
end OwnKit
open Jvm.Free.Fl
/-- an array whose places hold vs -/
def own_Ar (Z : State) (h : Heap) (a : Addr) (k : ClassId) (ty : FieldType) (vs : List Value) : Prop := ∃ c : Cell, Arr Z h a c ty ∧ c.cls = k ∧ c.slots = vs.toArray
section OwnArr
variable {p : Program} {l : Launch} {e : Env} {R : Room} {s : State} {m : MethodId} {args : Array Value} {below : List Frame} {meth : Method} {c : Code} {T : State} {locs : List Loc} {cells slots : Nat} {Z : State} {h h' : Heap} {a b : Addr} {k : ClassId} {ty : FieldType} {vs : List Value} {v : Value}
theorem own_Ar.lt (F : own_Ar Z h a k ty vs) : a < h.size := by obtain ⟨c, A, -⟩ := F; exact A.lt
theorem own_Ar.ext (F : own_Ar Z h a k ty vs) (E : Ext h h') : own_Ar Z h' a k ty vs := by obtain ⟨c, A, r⟩ := F; exact ⟨c, A.ext E, r⟩
theorem own_Ar.other {sl : Nat} (F : own_Ar Z h b k ty vs) (W : Wr h h' a sl v) (q : b ≠ a) : own_Ar Z h' b k ty vs := by obtain ⟨c, A, r⟩ := F; exact ⟨c, A.other W q, r⟩
theorem own_Ar.keep {ws : List Addr} (F : own_Ar Z h a k ty vs) (K : Keep h h' ws) (q : a ∉ ws) : own_Ar Z h' a k ty vs := by obtain ⟨c, A, r⟩ := F; exact ⟨c, ⟨K.2.1 a c A.1 q, A.2⟩, r⟩
theorem own_Ar.new {z : Int32} (A : Arr Z h a (newA k ty z) ty) {n : Nat} (hn : z.toNatClampNeg = n) : own_Ar Z h a k ty (List.replicate n (defaultValue ty)) := ⟨_, A, rfl, by
  subst hn
  show Array.replicate _ _ = _
  simp⟩
theorem own_Ar.set {j : Nat} (F : own_Ar Z h a k ty vs) (W : Wr h h' a j v) : own_Ar Z h' a k ty (vs.set j v) := by
  obtain ⟨c, A, hk, hs⟩ := F
  refine ⟨c.setSlot j v, A.same W, hk, ?_⟩
  show c.slots.setIfInBounds j v = _
  rw [hs]
  simp
theorem own_in {c : Cell} (hs : c.slots = vs.toArray) {j : Int32} (hj : ¬ j < 0) (hl : j.toNatClampNeg < vs.length) : ¬ (j < 0 ∨ c.slots.size ≤ j.toNatClampNeg) := by
  rw [hs]
  simp only [List.size_toArray]
  intro q
  rcases q with q | q
  · exact hj q
  · omega
theorem own_lt_of {i : Nat} (hv : vs[i]? = some v) : i < vs.length := (List.getElem?_eq_some_iff.mp hv).1
theorem own_get {c : Cell} (hs : c.slots = vs.toArray) {i : Nat} (hv : vs[i]? = some v) : c.slots[i]? = some v := by rw [hs]; simpa using hv
theorem own_ldI (X : Stand p l e R s m args below meth c T locs cells slots) (hx : p.tables.exec = Jvm.exec) (hZ : Z.Warmed39 s.vm) (eT : T.heap = h) (F : own_Ar Z h a k .int vs) {j : Int32} (hj : ¬ j < 0) (hv : vs[j.toNatClampNeg]? = some v) {g : JFrame} (hg : g.method = m) {rest : List Value} (hs : g.stack = .int j :: .ref a :: rest) (hd : decode c.code g.pc = .ok (.iaload, 1)) :
    ∀ t, Steps p.tables e below (T.setTop { g with pc := g.pc + 1, stack := v :: rest }) t → Steps p.tables e below (T.setTop g) t := fun t q => by
  obtain ⟨cl, A, -, hs'⟩ := F
  exact X.iaload hx (by rw [eT]; exact A.1) (State.isArrayOf_alike hZ.alike A.2.1) A.2.2 (own_in hs' hj (own_lt_of hv)) (own_get hs' hv) hg hs hd t q
theorem own_ldJ (X : Stand p l e R s m args below meth c T locs cells slots) (hx : p.tables.exec = Jvm.exec) (hZ : Z.Warmed39 s.vm) (eT : T.heap = h) (F : own_Ar Z h a k .long vs) {j : Int32} (hj : ¬ j < 0) (hv : vs[j.toNatClampNeg]? = some v) {g : JFrame} (hg : g.method = m) {rest : List Value} (hs : g.stack = .int j :: .ref a :: rest) (hd : decode c.code g.pc = .ok (.laload, 1)) :
    ∀ t, Steps p.tables e below (T.setTop { g with pc := g.pc + 1, stack := v :: rest }) t → Steps p.tables e below (T.setTop g) t := fun t q => by
  obtain ⟨cl, A, -, hs'⟩ := F
  exact X.laload hx (by rw [eT]; exact A.1) (State.isArrayOf_alike hZ.alike A.2.1) A.2.2 (own_in hs' hj (own_lt_of hv)) (own_get hs' hv) hg hs hd t q
theorem own_ldZ (X : Stand p l e R s m args below meth c T locs cells slots) (hx : p.tables.exec = Jvm.exec) (hZ : Z.Warmed39 s.vm) (eT : T.heap = h) (F : own_Ar Z h a k .boolean vs) {j : Int32} (hj : ¬ j < 0) (hv : vs[j.toNatClampNeg]? = some v) {g : JFrame} (hg : g.method = m) {rest : List Value} (hs : g.stack = .int j :: .ref a :: rest) (hd : decode c.code g.pc = .ok (.baload, 1)) :
    ∀ t, Steps p.tables e below (T.setTop { g with pc := g.pc + 1, stack := v :: rest }) t → Steps p.tables e below (T.setTop g) t := fun t q => by
  obtain ⟨cl, A, -, hs'⟩ := F
  exact X.baloadBooleans hx (by rw [eT]; exact A.1) (State.isArrayOf_alike hZ.alike A.2.1) A.2.2 (own_in hs' hj (own_lt_of hv)) (own_get hs' hv) hg hs hd t q
theorem own_ldR (X : Stand p l e R s m args below meth c T locs cells slots) (hx : p.tables.exec = Jvm.exec) (hZ : Z.Warmed39 s.vm) (eT : T.heap = h) (F : own_Ar Z h a k ty vs) {j : Int32} (hj : ¬ j < 0) (hv : vs[j.toNatClampNeg]? = some v) (hty : ty.isReference = true) {g : JFrame} (hg : g.method = m) {rest : List Value} (hs : g.stack = .int j :: .ref a :: rest) (hd : decode c.code g.pc = .ok (.aaload, 1)) :
    ∀ t, Steps p.tables e below (T.setTop { g with pc := g.pc + 1, stack := v :: rest }) t → Steps p.tables e below (T.setTop g) t := fun t q => by
  obtain ⟨cl, A, -, hs'⟩ := F
  exact X.aaload hx (by rw [eT]; exact A.1) (State.isArrayOf_alike hZ.alike A.2.1) hty A.2.2 (own_in hs' hj (own_lt_of hv)) (own_get hs' hv) hg hs hd t q
theorem own_alen (X : Stand p l e R s m args below meth c T locs cells slots) (hx : p.tables.exec = Jvm.exec) (hZ : Z.Warmed39 s.vm) (eT : T.heap = h) (F : own_Ar Z h a k ty vs) {g : JFrame} (hg : g.method = m) {rest : List Value} (hs : g.stack = .ref a :: rest) (hd : decode c.code g.pc = .ok (.arraylength, 1)) :
    ∀ t, Steps p.tables e below (T.setTop { g with pc := g.pc + 1, stack := .int vs.length.toInt32 :: rest }) t → Steps p.tables e below (T.setTop g) t := fun t q => by
  obtain ⟨cl, A, -, hs'⟩ := F
  have hl : cl.slots.size = vs.length := by rw [hs']; simp
  rw [← hl] at q
  exact X.arraylength hx (by rw [eT]; exact A.1) (State.isArrayOf_alike hZ.alike A.2.1) hg hs hd t q
theorem own_stI (X : Stand p l e R s m args below meth c T locs cells slots) (hx : p.tables.exec = Jvm.exec) (hZ : Z.Warmed39 s.vm) (eT : T.heap = h) (F : own_Ar Z h a k .int vs) {j x : Int32} (hj : ¬ j < 0) (hl : j.toNatClampNeg < vs.length) {g : JFrame} (hg : g.method = m) {rest : List Value} (hs : g.stack = .int x :: .int j :: .ref a :: rest) (hd : decode c.code g.pc = .ok (.iastore, 1)) :
    ∃ T' h', Stand p l e R s m args below meth c T' (locs ++ [⟨a, j.toNatClampNeg⟩]) cells slots ∧ T'.heap = h' ∧ Wr h h' a j.toNatClampNeg (.int x) ∧ own_Ar Z h' a k .int (vs.set j.toNatClampNeg (.int x)) ∧ ∀ t, Steps p.tables e below (T'.setTop { g with pc := g.pc + 1, stack := rest }) t → Steps p.tables e below (T.setTop g) t := by
  have F0 := F
  obtain ⟨cl, A, -, hs'⟩ := F
  obtain ⟨T', h', X', e', W, st⟩ := stI X hx hZ eT A (own_in hs' hj hl) hg hs hd
  exact ⟨T', h', X', e', W, F0.set W, st⟩
theorem own_stJ (X : Stand p l e R s m args below meth c T locs cells slots) (hx : p.tables.exec = Jvm.exec) (hZ : Z.Warmed39 s.vm) (eT : T.heap = h) (F : own_Ar Z h a k .long vs) {j : Int32} {x : Int64} (hj : ¬ j < 0) (hl : j.toNatClampNeg < vs.length) {g : JFrame} (hg : g.method = m) {rest : List Value} (hs : g.stack = .long x :: .int j :: .ref a :: rest) (hd : decode c.code g.pc = .ok (.lastore, 1)) :
    ∃ T' h', Stand p l e R s m args below meth c T' (locs ++ [⟨a, j.toNatClampNeg⟩]) cells slots ∧ T'.heap = h' ∧ Wr h h' a j.toNatClampNeg (.long x) ∧ own_Ar Z h' a k .long (vs.set j.toNatClampNeg (.long x)) ∧ ∀ t, Steps p.tables e below (T'.setTop { g with pc := g.pc + 1, stack := rest }) t → Steps p.tables e below (T.setTop g) t := by
  have F0 := F
  obtain ⟨cl, A, -, hs'⟩ := F
  obtain ⟨T', h', X', e', W, st⟩ := stJ X hx hZ eT A (own_in hs' hj hl) hg hs hd
  exact ⟨T', h', X', e', W, F0.set W, st⟩
theorem own_stZ (X : Stand p l e R s m args below meth c T locs cells slots) (hx : p.tables.exec = Jvm.exec) (hZ : Z.Warmed39 s.vm) (eT : T.heap = h) (F : own_Ar Z h a k .boolean vs) {j x : Int32} (hj : ¬ j < 0) (hl : j.toNatClampNeg < vs.length) {g : JFrame} (hg : g.method = m) {rest : List Value} (hs : g.stack = .int x :: .int j :: .ref a :: rest) (hd : decode c.code g.pc = .ok (.bastore, 1)) :
    ∃ T' h', Stand p l e R s m args below meth c T' (locs ++ [⟨a, j.toNatClampNeg⟩]) cells slots ∧ T'.heap = h' ∧ Wr h h' a j.toNatClampNeg (.int (nar .boolean x)) ∧ own_Ar Z h' a k .boolean (vs.set j.toNatClampNeg (.int (nar .boolean x))) ∧ ∀ t, Steps p.tables e below (T'.setTop { g with pc := g.pc + 1, stack := rest }) t → Steps p.tables e below (T.setTop g) t := by
  have F0 := F
  obtain ⟨cl, A, -, hs'⟩ := F
  obtain ⟨T', h', X', e', W, st⟩ := stZ X hx hZ eT A (own_in hs' hj hl) hg hs hd
  exact ⟨T', h', X', e', W, F0.set W, st⟩
theorem own_ldC (X : Stand p l e R s m args below meth c T locs cells slots) (hx : p.tables.exec = Jvm.exec) (hZ : Z.Warmed39 s.vm) (eT : T.heap = h) (F : own_Ar Z h a k .char vs) {j : Int32} (hj : ¬ j < 0) (hv : vs[j.toNatClampNeg]? = some v) {g : JFrame} (hg : g.method = m) {rest : List Value} (hs : g.stack = .int j :: .ref a :: rest) (hd : decode c.code g.pc = .ok (.caload, 1)) :
    ∀ t, Steps p.tables e below (T.setTop { g with pc := g.pc + 1, stack := v :: rest }) t → Steps p.tables e below (T.setTop g) t := fun t q => by
  obtain ⟨cl, A, -, hs'⟩ := F
  exact X.caload hx (by rw [eT]; exact A.1) (State.isArrayOf_alike hZ.alike A.2.1) A.2.2 (own_in hs' hj (own_lt_of hv)) (own_get hs' hv) hg hs hd t q
theorem own_stC (X : Stand p l e R s m args below meth c T locs cells slots) (hx : p.tables.exec = Jvm.exec) (hZ : Z.Warmed39 s.vm) (eT : T.heap = h) (F : own_Ar Z h a k .char vs) {j x : Int32} (hj : ¬ j < 0) (hl : j.toNatClampNeg < vs.length) {g : JFrame} (hg : g.method = m) {rest : List Value} (hs : g.stack = .int x :: .int j :: .ref a :: rest) (hd : decode c.code g.pc = .ok (.castore, 1)) :
    ∃ T' h', Stand p l e R s m args below meth c T' (locs ++ [⟨a, j.toNatClampNeg⟩]) cells slots ∧ T'.heap = h' ∧ Wr h h' a j.toNatClampNeg (.int (nar .char x)) ∧ own_Ar Z h' a k .char (vs.set j.toNatClampNeg (.int (nar .char x))) ∧ ∀ t, Steps p.tables e below (T'.setTop { g with pc := g.pc + 1, stack := rest }) t → Steps p.tables e below (T.setTop g) t := by
  have F0 := F
  obtain ⟨cl, A, -, hs'⟩ := F
  obtain ⟨T', h', X', e', W, st⟩ := stC X hx hZ eT A (own_in hs' hj hl) hg hs hd
  exact ⟨T', h', X', e', W, F0.set W, st⟩
theorem own_stB (X : Stand p l e R s m args below meth c T locs cells slots) (hx : p.tables.exec = Jvm.exec) (hZ : Z.Warmed39 s.vm) (eT : T.heap = h) (F : own_Ar Z h a k .byte vs) {j x : Int32} (hj : ¬ j < 0) (hl : j.toNatClampNeg < vs.length) {g : JFrame} (hg : g.method = m) {rest : List Value} (hs : g.stack = .int x :: .int j :: .ref a :: rest) (hd : decode c.code g.pc = .ok (.bastore, 1)) :
    ∃ T' h', Stand p l e R s m args below meth c T' (locs ++ [⟨a, j.toNatClampNeg⟩]) cells slots ∧ T'.heap = h' ∧ Wr h h' a j.toNatClampNeg (.int (nar .byte x)) ∧ own_Ar Z h' a k .byte (vs.set j.toNatClampNeg (.int (nar .byte x))) ∧ ∀ t, Steps p.tables e below (T'.setTop { g with pc := g.pc + 1, stack := rest }) t → Steps p.tables e below (T.setTop g) t := by
  have F0 := F
  obtain ⟨cl, A, -, hs'⟩ := F
  obtain ⟨T', h', X', e', W, st⟩ := stB X hx hZ eT A (own_in hs' hj hl) hg hs hd
  exact ⟨T', h', X', e', W, F0.set W, st⟩
theorem own_stR {C : String} {y : Addr} (X : Stand p l e R s m args below meth c T locs cells slots) (hx : p.tables.exec = Jvm.exec) (hZ : Z.Warmed39 s.vm) (eT : T.heap = h) (F : own_Ar Z h a k (.object C) vs) (O : Ovr Z k C) (I : Ins Z h y C true) {j : Int32} (hj : ¬ j < 0) (hl : j.toNatClampNeg < vs.length) {g : JFrame} (hg : g.method = m) {rest : List Value} (hs : g.stack = .ref y :: .int j :: .ref a :: rest) (hd : decode c.code g.pc = .ok (.aastore, 1)) :
    ∃ T' h', Stand p l e R s m args below meth c T' (locs ++ [⟨a, j.toNatClampNeg⟩]) cells slots ∧ T'.heap = h' ∧ Wr h h' a j.toNatClampNeg (.ref y) ∧ own_Ar Z h' a k (.object C) (vs.set j.toNatClampNeg (.ref y)) ∧ ∀ t, Steps p.tables e below (T'.setTop { g with pc := g.pc + 1, stack := rest }) t → Steps p.tables e below (T.setTop g) t := by
  have F0 := F
  obtain ⟨cl, A, hk, hs'⟩ := F
  obtain ⟨T', h', X', e', W, st⟩ := stR X hx hZ eT A (own_in hs' hj hl) rfl (Sto.ofV A hk O I) hg hs hd
  exact ⟨T', h', X', e', W, F0.set W, st⟩
theorem own_ar_plain (F : own_Ar Z h a k ty vs) : ∀ cell : Cell, h[a]? = some cell → cell.vm.isStatics = false := fun cell hc => by
  obtain ⟨c1, A, -⟩ := F
  cases A.1.symm.trans hc
  exact A.plain
end OwnArr
section OwnD
variable {p : Program} {l : Launch} {e : Env} {R : Room} {s : State} {m : MethodId} {args : Array Value} {below : List Frame} {meth : Method} {c : Code} {T : State} {locs : List Loc} {cells slots : Nat} {Z : State} {h h' : Heap} {a b : Addr} {k : ClassId} {ty : FieldType} {vs : List Value} {v : Value}
theorem own_ldD (X : Stand p l e R s m args below meth c T locs cells slots) (hx : p.tables.exec = Jvm.exec) (hZ : Z.Warmed39 s.vm) (eT : T.heap = h) (F : own_Ar Z h a k .double vs) {j : Int32} (hj : ¬ j < 0) (hv : vs[j.toNatClampNeg]? = some v) {g : JFrame} (hg : g.method = m) {rest : List Value} (hs : g.stack = .int j :: .ref a :: rest) (hd : decode c.code g.pc = .ok (.daload, 1)) :
    ∀ t, Steps p.tables e below (T.setTop { g with pc := g.pc + 1, stack := v :: rest }) t → Steps p.tables e below (T.setTop g) t := fun t q => by
  obtain ⟨cl, A, -, hs'⟩ := F
  exact X.daload hx (by rw [eT]; exact A.1) (State.isArrayOf_alike hZ.alike A.2.1) A.2.2 (own_in hs' hj (own_lt_of hv)) (own_get hs' hv) hg hs hd t q
theorem own_stD (X : Stand p l e R s m args below meth c T locs cells slots) (hx : p.tables.exec = Jvm.exec) (hZ : Z.Warmed39 s.vm) (eT : T.heap = h) (F : own_Ar Z h a k .double vs) {j : Int32} {x : UInt64} (hj : ¬ j < 0) (hl : j.toNatClampNeg < vs.length) {g : JFrame} (hg : g.method = m) {rest : List Value} (hs : g.stack = .double x :: .int j :: .ref a :: rest) (hd : decode c.code g.pc = .ok (.dastore, 1)) :
    ∃ T' h', Stand p l e R s m args below meth c T' (locs ++ [⟨a, j.toNatClampNeg⟩]) cells slots ∧ T'.heap = h' ∧ Wr h h' a j.toNatClampNeg (.double x) ∧ own_Ar Z h' a k .double (vs.set j.toNatClampNeg (.double x)) ∧ ∀ t, Steps p.tables e below (T'.setTop { g with pc := g.pc + 1, stack := rest }) t → Steps p.tables e below (T.setTop g) t := by
  have F0 := F
  obtain ⟨cl, A, -, hs'⟩ := F
  obtain ⟨T', h', X', e', W, st⟩ := stD X hx hZ eT A (own_in hs' hj hl) hg hs hd
  exact ⟨T', h', X', e', W, F0.set W, st⟩
theorem own_clone (X : Stand p l e R s m args below meth c T locs cells slots) (hx : p.tables.exec = Jvm.exec) (hZ : Z.Warmed39 s.vm) {a0 : Array Value} {own ad : String} {index : Nat} (hown : s.vm.findClass own = some m.cls)
    (w1 : (Cond.methodLink own index ⟨ad, "clone", "()Ljava/lang/Object;"⟩).before a0 Z = true) (w2 : (Cond.sameMethod ad "java/lang/Object" "clone" "()Ljava/lang/Object;").before a0 Z = true) (w3 : (Cond.native ⟨"java/lang/Object", "clone", "()Ljava/lang/Object;"⟩).before a0 Z = true)
    (w4 : (Cond.instanceMethod ⟨"java/lang/Object", "clone", "()Ljava/lang/Object;"⟩).before a0 Z = true) (w5 : (Cond.selects ad ⟨ad, "clone", "()Ljava/lang/Object;"⟩ ⟨"java/lang/Object", "clone", "()Ljava/lang/Object;"⟩).before a0 Z = true) (w6 : (Cond.castable ad "java/lang/Cloneable").before a0 Z = true)
    (eT : T.heap = h) (F : own_Ar Z h a k ty vs) (E : Exa Z h a ad) (hfit : ∀ v ∈ vs, fits ty v = true) {g : JFrame} (hg : g.method = m) (hsize : g.locals.size = c.maxLocals) {rest : List Value} (hst : g.stack = .ref a :: rest) (hd : decode c.code g.pc = .ok (.invokevirtual index, 3))
    (hf : 1 ≤ R.frames) {W cap : Nat} (hW : 2 * g.monitorRoom + (rest.map fun v => v.category).sum ≤ W) (hl : W + 14 ≤ R.locals) (hcap : vs.length ≤ cap) (hc : cells + 1 ≤ R.cells) (hsl : slots + cap ≤ R.slots) :
    ∃ T' h', Stand p l e R s m args below meth c T' locs (cells + 1) (slots + cap) ∧ T'.heap = h' ∧ Ext h h' ∧ own_Ar Z h' h.size k ty vs ∧ Exa Z h' h.size ad ∧
      ∀ target, Steps p.tables e below (T'.setTop { g with pc := g.pc + 3, stack := .ref h.size :: rest }) target → Steps p.tables e below (T.setTop g) target := by
  obtain ⟨cl, A, hk, hs⟩ := F
  have FC : FitC Z cl := fitC_of A fun i hi v hv => by
    rw [hs] at hv
    exact hfit v (List.mem_of_getElem? (i := i) (by simpa using hv))
  obtain ⟨T', h', X', e', ex, A', E', st⟩ := cloneA X hx hZ hown w1 w2 w3 w4 w5 w6 eT A E FC hg hsize hst hd hf hW hl (by rw [hs]; simpa using hcap) hc hsl
  exact ⟨T', h', X', e', ex, ⟨cloneOf cl, A', hk, hs⟩, E', st⟩
end OwnD
theorem own_nz : NoNaN64 (0 : UInt64) := l2d_zero ▸ (l2d_fin 0).noNaN
theorem own_no : NoNaN64 FP.dconst1 := by
  have h : FP.dconst1 = FP.l2d 1 := by decide +kernel
  rw [h]
  exact (l2d_fin 1).noNaN
abbrev own_y0 : MethodName := ⟨"java/util/Arrays", "fill", "([DD)V"⟩
abbrev own_y1 : MethodName := ⟨"com/example/accrue/accrue/exact/Paths", "<init>", "(I)V"⟩
abbrev own_y2 : MethodName := ⟨"com/example/accrue/accrue/exact/Paths", "setNext", "(IDDD)V"⟩
abbrev own_y3 : MethodName := ⟨"com/example/accrue/accrue/exact/PathsAdvancePinLaw", "is", "(Lcom/example/accrue/accrue/exact/Paths;IDDD)Z"⟩
abbrev own_y4 : MethodName := ⟨"com/example/accrue/accrue/exact/Paths", "advance", "()V"⟩
theorem d3_0 : decode jdk_65_method_113_code 0 = .ok (.iconst 0, 1) := by decide +kernel
theorem d3_1 : decode jdk_65_method_113_code 1 = .ok (.istore_n 3, 1) := by decide +kernel
theorem d3_2 : decode jdk_65_method_113_code 2 = .ok (.aload_n 0, 1) := by decide +kernel
theorem d3_3 : decode jdk_65_method_113_code 3 = .ok (.arraylength, 1) := by decide +kernel
theorem d3_4 : decode jdk_65_method_113_code 4 = .ok (.istore 4, 2) := by decide +kernel
theorem d3_6 : decode jdk_65_method_113_code 6 = .ok (.iload_n 3, 1) := by decide +kernel
theorem d3_7 : decode jdk_65_method_113_code 7 = .ok (.iload 4, 2) := by decide +kernel
theorem d3_9 : decode jdk_65_method_113_code 9 = .ok (.if_icmp .ge 13, 3) := by decide +kernel
theorem d3_12 : decode jdk_65_method_113_code 12 = .ok (.aload_n 0, 1) := by decide +kernel
theorem d3_13 : decode jdk_65_method_113_code 13 = .ok (.iload_n 3, 1) := by decide +kernel
theorem d3_14 : decode jdk_65_method_113_code 14 = .ok (.dload_n 1, 1) := by decide +kernel
theorem d3_15 : decode jdk_65_method_113_code 15 = .ok (.dastore, 1) := by decide +kernel
theorem d3_16 : decode jdk_65_method_113_code 16 = .ok (.iinc 3 1, 3) := by decide +kernel
theorem d3_19 : decode jdk_65_method_113_code 19 = .ok (.goto (-13), 3) := by decide +kernel
theorem d3_22 : decode jdk_65_method_113_code 22 = .ok (.return_, 1) := by decide +kernel
theorem own_pf_fl : plainFor own_y0 = true := by first | exact plainFor_of_name (show plainName "java/util/Arrays" = true by first | (simp [plainName, overriddenIn]; done) | decide +kernel) | decide +kernel
theorem own_ef_fl (m : MethodId) (y0 : Addr) (y1 : UInt64) : entryFrame m #[(.ref y0), (.double y1)] 5 = mkF m 0 #[rv y0, .val (.double y1), .second, .unset, .unset] [] := by first | (simp [entryFrame, mkF, argsToLocals, Value.category]; done) | rfl
def own_Qfl (Z : State) (la : Addr) (kl : ClassId) (h0 : Heap) (n0 : Nat) (v : Option Value) (h : Heap) (L : List Loc) : Prop := v = none ∧ Fr n0 L ∧ Keep h0 h [la] ∧ own_Ar Z h la kl .double [(.double FP.dconst1), (.double FP.dconst1)]
set_option maxRecDepth 65536 in
set_option maxHeartbeats 40000000 in
theorem own_rmfl (l : Launch) (Z : State) (a0 : Array Value) (hw : ∀ d ∈ tables_1, d.before a0 Z = true) (ws : List Jvm.Cond) (la : Addr) (kl : ClassId) (h0 : Heap) (n0 : Nat) (Z0 : n0 ≤ h0.size) (P0 : own_Ar Z h0 la kl .double [(.double (0 : UInt64)), (.double (0 : UInt64))]) (G_la : n0 ≤ la) :
    MetFree l own_y0 (head1 (Jvm.Cond.code own_y0 jdk_65_method_113_code 5 none :: ws) ({ frames := 0, cells := 0, slots := 0, locals := 0 } : Room)) (fun az Uz => az = #[(.ref la), (.double FP.dconst1)] ∧ Z.Warmed39 Uz.vm ∧ Uz.heap = h0) (fun _ _ _ _ _ => True) (fun _ U o U' => ∃ v L, o = .returned v ∧ own_Qfl Z la kl h0 n0 v U'.heap L ∧ FrameEnd U o U' L ({ frames := 0, cells := 0, slots := 0, locals := 0 } : Room).cells ({ frames := 0, cells := 0, slots := 0, locals := 0 } : Room).slots) := by
  refine MetFree.of_bodySF own_pf_fl hisR ?_
  intro p e s m args below meth c s₁ Bd hml0 hP hK
  obtain ⟨rfl, hZ, hh⟩ := hP
  have hx := Bd.exec
  have hby := Bd.bytes
  have hml : c.maxLocals = 5 := hml0
  have hown : s.vm.findClass "java/util/Arrays" = some m.cls := findClass_of_methodNamed Bd.named
  have hnm := (name_of_methodNamed Bd.named Bd.method).1
  have hlk : meth.locks = false := BodyLoose.notSynchronized Bd
  have hret := Bd.returns
  have X0 : Stand p l e ({ frames := 0, cells := 0, slots := 0, locals := 0 } : Room) s m #[(.ref la), (.double FP.dconst1)] below meth c s₁ [] 0 0 := Stand.of_body Bd
  have e0 : s₁.heap = h0 := by rw [← hh, Bd.state]; rfl
  have N0 := Fr.nil n0
  show own_E p e below (own_K s (own_Qfl Z la kl h0 n0) ({ frames := 0, cells := 0, slots := 0, locals := 0 } : Room).cells ({ frames := 0, cells := 0, slots := 0, locals := 0 } : Room).slots) s₁ (entryFrame m #[(.ref la), (.double FP.dconst1)] 5)
  refine own_S (mkF m 0 #[rv la, .val (.double FP.dconst1), .second, .unset, .unset] []) (fun _ k => castTop (own_ef_fl m (la) (FP.dconst1)) k) ?_
  refine own_S (mkF m 1 #[rv la, .val (.double FP.dconst1), .second, .unset, .unset] [(.int 0)]) (fun _ k => XS.iconst X0.here hx rfl (hb hby d3_0) k) ?_
  refine own_S (mkF m 2 #[rv la, .val (.double FP.dconst1), .second, .val (.int 0), .unset] []) (fun _ k => XS.istoreN X0.here hx rfl (hb hby d3_1) rfl (l' := #[rv la, .val (.double FP.dconst1), .second, .val (.int 0), .unset]) rfl k) ?_
  refine own_S (mkF m 3 #[rv la, .val (.double FP.dconst1), .second, .val (.int 0), .unset] [(.ref la)]) (fun _ k => XS.aloadN X0.here hx rfl (hb hby d3_2) rfl rfl k) ?_
  refine own_S (mkF m 4 #[rv la, .val (.double FP.dconst1), .second, .val (.int 0), .unset] [(.int 2)]) (fun _ k => own_alen X0 hx hZ e0 P0 (g := (mkF m 3 #[rv la, .val (.double FP.dconst1), .second, .val (.int 0), .unset] [(.ref la)])) rfl rfl (hb hby d3_3) _ k) ?_
  refine own_S (mkF m 6 #[rv la, .val (.double FP.dconst1), .second, .val (.int 0), .val (.int 2)] []) (fun _ k => XS.istore X0.here hx rfl (hb hby d3_4) rfl (l' := #[rv la, .val (.double FP.dconst1), .second, .val (.int 0), .val (.int 2)]) rfl k) ?_
  refine own_S (mkF m 7 #[rv la, .val (.double FP.dconst1), .second, .val (.int 0), .val (.int 2)] [(.int 0)]) (fun _ k => XS.iloadN X0.here hx rfl (hb hby d3_6) rfl k) ?_
  refine own_S (mkF m 9 #[rv la, .val (.double FP.dconst1), .second, .val (.int 0), .val (.int 2)] [(.int 2), (.int 0)]) (fun _ k => XS.iload X0.here hx rfl (hb hby d3_7) rfl k) ?_
  have hc1 : (0 : Int32) < (2 : Int32) := by decide
  refine own_S (mkF m 12 #[rv la, .val (.double FP.dconst1), .second, .val (.int 0), .val (.int 2)] []) (fun _ k => XS.icmpNo X0.here hx rfl (hb hby d3_9) rfl (tlt hc1).2.1 k) ?_
  refine own_S (mkF m 13 #[rv la, .val (.double FP.dconst1), .second, .val (.int 0), .val (.int 2)] [(.ref la)]) (fun _ k => XS.aloadN X0.here hx rfl (hb hby d3_12) rfl rfl k) ?_
  refine own_S (mkF m 14 #[rv la, .val (.double FP.dconst1), .second, .val (.int 0), .val (.int 2)] [(.int 0), (.ref la)]) (fun _ k => XS.iloadN X0.here hx rfl (hb hby d3_13) rfl k) ?_
  refine own_S (mkF m 15 #[rv la, .val (.double FP.dconst1), .second, .val (.int 0), .val (.int 2)] [(.double FP.dconst1), (.int 0), (.ref la)]) (fun _ k => XS.dloadN X0.here hx rfl (hb hby d3_14) rfl k) ?_
  obtain ⟨T2, h2, X2, e2, W2, AR2, st2⟩ := own_stD (j := (0 : Int32)) X0 hx hZ e0 P0 (by decide) (show (0 : Nat) < 2 from by decide) (g := (mkF m 15 #[rv la, .val (.double FP.dconst1), .second, .val (.int 0), .val (.int 2)] [(.double FP.dconst1), (.int 0), (.ref la)])) rfl rfl (hb hby d3_15)
  refine own_S (mkF m 16 #[rv la, .val (.double FP.dconst1), .second, .val (.int 0), .val (.int 2)] []) st2 ?_
  have F3 : own_Ar Z h2 la kl .double [(.double FP.dconst1), (.double (0 : UInt64))] := AR2
  have N2 := Fr.snoc X2 N0 G_la
  have Z2 : n0 ≤ h2.size := by rw [Wr.size W2]; exact Z0
  have K2 : Keep h0 h2 [la] := (Keep.refl _ _).wr W2 (Or.inl (List.mem_of_getElem? (i := 0) rfl))
  refine own_S (mkF m 19 #[rv la, .val (.double FP.dconst1), .second, .val (.int 1), .val (.int 2)] []) (fun _ k => XS.iinc X2.here hx rfl (hb hby d3_16) rfl (l' := #[rv la, .val (.double FP.dconst1), .second, .val (.int 1), .val (.int 2)]) rfl k) ?_
  refine own_S (mkF m 6 #[rv la, .val (.double FP.dconst1), .second, .val (.int 1), .val (.int 2)] []) (fun _ k => XS.goto X2.here hx rfl (pc0 := 19) (pc' := 6) rfl (hb hby d3_19) (by decide) (by decide) k) ?_
  refine own_S (mkF m 7 #[rv la, .val (.double FP.dconst1), .second, .val (.int 1), .val (.int 2)] [(.int 1)]) (fun _ k => XS.iloadN X2.here hx rfl (hb hby d3_6) rfl k) ?_
  refine own_S (mkF m 9 #[rv la, .val (.double FP.dconst1), .second, .val (.int 1), .val (.int 2)] [(.int 2), (.int 1)]) (fun _ k => XS.iload X2.here hx rfl (hb hby d3_7) rfl k) ?_
  have hc4 : (1 : Int32) < (2 : Int32) := by decide
  refine own_S (mkF m 12 #[rv la, .val (.double FP.dconst1), .second, .val (.int 1), .val (.int 2)] []) (fun _ k => XS.icmpNo X2.here hx rfl (hb hby d3_9) rfl (tlt hc4).2.1 k) ?_
  refine own_S (mkF m 13 #[rv la, .val (.double FP.dconst1), .second, .val (.int 1), .val (.int 2)] [(.ref la)]) (fun _ k => XS.aloadN X2.here hx rfl (hb hby d3_12) rfl rfl k) ?_
  refine own_S (mkF m 14 #[rv la, .val (.double FP.dconst1), .second, .val (.int 1), .val (.int 2)] [(.int 1), (.ref la)]) (fun _ k => XS.iloadN X2.here hx rfl (hb hby d3_13) rfl k) ?_
  refine own_S (mkF m 15 #[rv la, .val (.double FP.dconst1), .second, .val (.int 1), .val (.int 2)] [(.double FP.dconst1), (.int 1), (.ref la)]) (fun _ k => XS.dloadN X2.here hx rfl (hb hby d3_14) rfl k) ?_
  obtain ⟨T5, h5, X5, e5, W5, AR5, st5⟩ := own_stD (j := (1 : Int32)) X2 hx hZ e2 F3 (by decide) (show (1 : Nat) < 2 from by decide) (g := (mkF m 15 #[rv la, .val (.double FP.dconst1), .second, .val (.int 1), .val (.int 2)] [(.double FP.dconst1), (.int 1), (.ref la)])) rfl rfl (hb hby d3_15)
  refine own_S (mkF m 16 #[rv la, .val (.double FP.dconst1), .second, .val (.int 1), .val (.int 2)] []) st5 ?_
  have F6 : own_Ar Z h5 la kl .double [(.double FP.dconst1), (.double FP.dconst1)] := AR5
  have N5 := Fr.snoc X5 N2 G_la
  have Z5 : n0 ≤ h5.size := by rw [Wr.size W5]; exact Z2
  have K5 : Keep h0 h5 [la] := K2.wr W5 (Or.inl (List.mem_of_getElem? (i := 0) rfl))
  refine own_S (mkF m 19 #[rv la, .val (.double FP.dconst1), .second, .val (.int 2), .val (.int 2)] []) (fun _ k => XS.iinc X5.here hx rfl (hb hby d3_16) rfl (l' := #[rv la, .val (.double FP.dconst1), .second, .val (.int 2), .val (.int 2)]) rfl k) ?_
  refine own_S (mkF m 6 #[rv la, .val (.double FP.dconst1), .second, .val (.int 2), .val (.int 2)] []) (fun _ k => XS.goto X5.here hx rfl (pc0 := 19) (pc' := 6) rfl (hb hby d3_19) (by decide) (by decide) k) ?_
  refine own_S (mkF m 7 #[rv la, .val (.double FP.dconst1), .second, .val (.int 2), .val (.int 2)] [(.int 2)]) (fun _ k => XS.iloadN X5.here hx rfl (hb hby d3_6) rfl k) ?_
  refine own_S (mkF m 9 #[rv la, .val (.double FP.dconst1), .second, .val (.int 2), .val (.int 2)] [(.int 2), (.int 2)]) (fun _ k => XS.iload X5.here hx rfl (hb hby d3_7) rfl k) ?_
  have hc7 : ¬ ((2 : Int32) < (2 : Int32)) := by decide
  refine own_S (mkF m 22 #[rv la, .val (.double FP.dconst1), .second, .val (.int 2), .val (.int 2)] []) (fun _ k => XS.icmpYes X5.here hx rfl (pc0 := 9) (pc' := 22) rfl (hb hby d3_9) rfl (flt hc7).2.1 (by decide) (by decide) k) ?_
  exact own_ret0 X5 hx hlk hret (hb hby d3_22) (by rw [e5]; exact ⟨rfl, N5, K5, F6⟩) (by decide) (by decide)
theorem d1_0 : decode prog_28_method_1_code 0 = .ok (.aload_n 0, 1) := by decide +kernel
theorem d1_1 : decode prog_28_method_1_code 1 = .ok (.invokespecial 1, 3) := by decide +kernel
theorem d1_4 : decode prog_28_method_1_code 4 = .ok (.aload_n 0, 1) := by decide +kernel
theorem d1_5 : decode prog_28_method_1_code 5 = .ok (.iload_n 1, 1) := by decide +kernel
theorem d1_6 : decode prog_28_method_1_code 6 = .ok (.newarray .double, 2) := by decide +kernel
theorem d1_8 : decode prog_28_method_1_code 8 = .ok (.putfield 7, 3) := by decide +kernel
theorem d1_11 : decode prog_28_method_1_code 11 = .ok (.aload_n 0, 1) := by decide +kernel
theorem d1_12 : decode prog_28_method_1_code 12 = .ok (.iload_n 1, 1) := by decide +kernel
theorem d1_13 : decode prog_28_method_1_code 13 = .ok (.newarray .double, 2) := by decide +kernel
theorem d1_15 : decode prog_28_method_1_code 15 = .ok (.putfield 13, 3) := by decide +kernel
theorem d1_18 : decode prog_28_method_1_code 18 = .ok (.aload_n 0, 1) := by decide +kernel
theorem d1_19 : decode prog_28_method_1_code 19 = .ok (.iload_n 1, 1) := by decide +kernel
theorem d1_20 : decode prog_28_method_1_code 20 = .ok (.newarray .double, 2) := by decide +kernel
theorem d1_22 : decode prog_28_method_1_code 22 = .ok (.putfield 16, 3) := by decide +kernel
theorem d1_25 : decode prog_28_method_1_code 25 = .ok (.aload_n 0, 1) := by decide +kernel
theorem d1_26 : decode prog_28_method_1_code 26 = .ok (.getfield 16, 3) := by decide +kernel
theorem d1_29 : decode prog_28_method_1_code 29 = .ok (.dconst 1, 1) := by decide +kernel
theorem d1_30 : decode prog_28_method_1_code 30 = .ok (.invokestatic 19, 3) := by decide +kernel
theorem d1_33 : decode prog_28_method_1_code 33 = .ok (.aload_n 0, 1) := by decide +kernel
theorem d1_34 : decode prog_28_method_1_code 34 = .ok (.aload_n 0, 1) := by decide +kernel
theorem d1_35 : decode prog_28_method_1_code 35 = .ok (.getfield 7, 3) := by decide +kernel
theorem d1_38 : decode prog_28_method_1_code 38 = .ok (.invokevirtual 25, 3) := by decide +kernel
theorem d1_41 : decode prog_28_method_1_code 41 = .ok (.checkcast 26, 3) := by decide +kernel
theorem d1_44 : decode prog_28_method_1_code 44 = .ok (.putfield 30, 3) := by decide +kernel
theorem d1_47 : decode prog_28_method_1_code 47 = .ok (.aload_n 0, 1) := by decide +kernel
theorem d1_48 : decode prog_28_method_1_code 48 = .ok (.aload_n 0, 1) := by decide +kernel
theorem d1_49 : decode prog_28_method_1_code 49 = .ok (.getfield 13, 3) := by decide +kernel
theorem d1_52 : decode prog_28_method_1_code 52 = .ok (.invokevirtual 25, 3) := by decide +kernel
theorem d1_55 : decode prog_28_method_1_code 55 = .ok (.checkcast 26, 3) := by decide +kernel
theorem d1_58 : decode prog_28_method_1_code 58 = .ok (.putfield 33, 3) := by decide +kernel
theorem d1_61 : decode prog_28_method_1_code 61 = .ok (.aload_n 0, 1) := by decide +kernel
theorem d1_62 : decode prog_28_method_1_code 62 = .ok (.aload_n 0, 1) := by decide +kernel
theorem d1_63 : decode prog_28_method_1_code 63 = .ok (.getfield 16, 3) := by decide +kernel
theorem d1_66 : decode prog_28_method_1_code 66 = .ok (.invokevirtual 25, 3) := by decide +kernel
theorem d1_69 : decode prog_28_method_1_code 69 = .ok (.checkcast 26, 3) := by decide +kernel
theorem d1_72 : decode prog_28_method_1_code 72 = .ok (.putfield 36, 3) := by decide +kernel
theorem d1_75 : decode prog_28_method_1_code 75 = .ok (.return_, 1) := by decide +kernel
theorem own_pd___DD_V : parseMethodDescriptor "([DD)V" = some ⟨[(.array .double), .double], none⟩ := by decide +kernel
theorem own_pf_ini : plainFor own_y1 = true := by first | exact plainFor_of_name (show plainName "com/example/accrue/accrue/exact/Paths" = true by first | (simp [plainName, overriddenIn]; done) | decide +kernel) | decide +kernel
theorem own_ef_ini (m : MethodId) (y0 : Addr) (y1 : Int32) : entryFrame m #[(.ref y0), (.int y1)] 2 = mkF m 0 #[rv y0, iv y1] [] := by first | (simp [entryFrame, mkF, argsToLocals, Value.category]; done) | rfl
def own_Qini (Z : State) (a : Addr) (h0 : Heap) (n0 : Nat) (v : Option Value) (h : Heap) (L : List Loc) : Prop := ∃ (ga : Addr) (sa : Addr) (la : Addr) (ng : Addr) (ns : Addr) (nl : Addr) (k0 : ClassId) (k1 : ClassId) (k2 : ClassId) (k3 : ClassId) (k4 : ClassId) (k5 : ClassId), v = none ∧ Fr n0 L ∧ Keep h0 h [a] ∧ Exa Z h a "com/example/accrue/accrue/exact/Paths" ∧ Fld Z h a "com/example/accrue/accrue/exact/Paths" "gathered" "[D" (.ref ga) ∧ Fld Z h a "com/example/accrue/accrue/exact/Paths" "staying" "[D" (.ref sa) ∧ Fld Z h a "com/example/accrue/accrue/exact/Paths" "leaving" "[D" (.ref la) ∧ Fld Z h a "com/example/accrue/accrue/exact/Paths" "nextGathered" "[D" (.ref ng) ∧ Fld Z h a "com/example/accrue/accrue/exact/Paths" "nextStaying" "[D" (.ref ns) ∧ Fld Z h a "com/example/accrue/accrue/exact/Paths" "nextLeaving" "[D" (.ref nl) ∧ own_Ar Z h ga k0 .double [(.double (0 : UInt64)), (.double (0 : UInt64))] ∧ own_Ar Z h sa k1 .double [(.double (0 : UInt64)), (.double (0 : UInt64))] ∧ own_Ar Z h la k2 .double [(.double FP.dconst1), (.double FP.dconst1)] ∧ own_Ar Z h ng k3 .double [(.double (0 : UInt64)), (.double (0 : UInt64))] ∧ own_Ar Z h ns k4 .double [(.double (0 : UInt64)), (.double (0 : UInt64))] ∧ own_Ar Z h nl k5 .double [(.double FP.dconst1), (.double FP.dconst1)] ∧ h0.size ≤ ga ∧ h0.size ≤ sa ∧ h0.size ≤ la ∧ h0.size ≤ ng ∧ h0.size ≤ ns ∧ h0.size ≤ nl ∧ ga ≠ sa ∧ ga ≠ la ∧ ga ≠ ng ∧ ga ≠ ns ∧ ga ≠ nl ∧ sa ≠ la ∧ sa ≠ ng ∧ sa ≠ ns ∧ sa ≠ nl ∧ la ≠ ng ∧ la ≠ ns ∧ la ≠ nl ∧ ng ≠ ns ∧ ng ≠ nl ∧ ns ≠ nl
set_option maxRecDepth 65536 in
set_option maxHeartbeats 40000000 in
theorem own_rmini (l : Launch) (Z : State) (a0 : Array Value) (hw : ∀ d ∈ tables_1, d.before a0 Z = true) (ws : List Jvm.Cond) (a : Addr) (h0 : Heap) (n0 : Nat) (Z0 : n0 ≤ h0.size) (P0 : Exa Z h0 a "com/example/accrue/accrue/exact/Paths") (P1 : Fld Z h0 a "com/example/accrue/accrue/exact/Paths" "gathered" "[D" .null) (P2 : Fld Z h0 a "com/example/accrue/accrue/exact/Paths" "staying" "[D" .null) (P3 : Fld Z h0 a "com/example/accrue/accrue/exact/Paths" "leaving" "[D" .null) (P4 : Fld Z h0 a "com/example/accrue/accrue/exact/Paths" "nextGathered" "[D" .null) (P5 : Fld Z h0 a "com/example/accrue/accrue/exact/Paths" "nextStaying" "[D" .null) (P6 : Fld Z h0 a "com/example/accrue/accrue/exact/Paths" "nextLeaving" "[D" .null) (G_a : n0 ≤ a) :
    MetFree l own_y1 (head1 (Jvm.Cond.code own_y1 prog_28_method_1_code 2 none :: ws) ({ frames := 1, cells := 6, slots := 12, locals := 16 } : Room)) (fun az Uz => az = #[(.ref a), (.int 2)] ∧ Z.Warmed39 Uz.vm ∧ Uz.heap = h0) (fun _ _ _ _ _ => True) (fun _ U o U' => ∃ v L, o = .returned v ∧ own_Qini Z a h0 n0 v U'.heap L ∧ FrameEnd U o U' L ({ frames := 1, cells := 6, slots := 12, locals := 16 } : Room).cells ({ frames := 1, cells := 6, slots := 12, locals := 16 } : Room).slots) := by
  refine MetFree.of_bodySF own_pf_ini hisR ?_
  intro p e s m args below meth c s₁ Bd hml0 hP hK
  obtain ⟨rfl, hZ, hh⟩ := hP
  have hx := Bd.exec
  have hby := Bd.bytes
  have hml : c.maxLocals = 2 := hml0
  have hown : s.vm.findClass "com/example/accrue/accrue/exact/Paths" = some m.cls := findClass_of_methodNamed Bd.named
  have hnm := (name_of_methodNamed Bd.named Bd.method).1
  have hlk : meth.locks = false := BodyLoose.notSynchronized Bd
  have hret := Bd.returns
  have X0 : Stand p l e ({ frames := 1, cells := 6, slots := 12, locals := 16 } : Room) s m #[(.ref a), (.int 2)] below meth c s₁ [] 0 0 := Stand.of_body Bd
  have e0 : s₁.heap = h0 := by rw [← hh, Bd.state]; rfl
  have N0 := Fr.nil n0
  show own_E p e below (own_K s (own_Qini Z a h0 n0) ({ frames := 1, cells := 6, slots := 12, locals := 16 } : Room).cells ({ frames := 1, cells := 6, slots := 12, locals := 16 } : Room).slots) s₁ (entryFrame m #[(.ref a), (.int 2)] 2)
  refine own_S (mkF m 0 #[rv a, .val (.int 2)] []) (fun _ k => castTop (own_ef_ini m (a) ((2 : Int32))) k) ?_
  refine own_S (mkF m 1 #[rv a, .val (.int 2)] [(.ref a)]) (fun _ k => XS.aloadN X0.here hx rfl (hb hby d1_0) rfl rfl k) ?_
  obtain ⟨T1, X1, e1, st1⟩ := initO X0 hx hZ hown (own_g hw (i := 6) rfl) (own_g hw (i := 7) rfl) (own_g hw (i := 8) rfl) e0 (g := (mkF m 1 #[rv a, .val (.int 2)] [(.ref a)])) rfl (by rw [hml]; rfl) rfl (hb hby d1_1) (by decide) (W := 0) (by show 2 * 0 + _ ≤ _; exact Nat.le_of_eq rfl) (by decide)
  refine own_S (mkF m 4 #[rv a, .val (.int 2)] []) st1 ?_
  refine own_S (mkF m 5 #[rv a, .val (.int 2)] [(.ref a)]) (fun _ k => XS.aloadN X1.here hx rfl (hb hby d1_4) rfl rfl k) ?_
  refine own_S (mkF m 6 #[rv a, .val (.int 2)] [(.int 2), (.ref a)]) (fun _ k => XS.iloadN X1.here hx rfl (hb hby d1_5) rfl k) ?_
  obtain ⟨T2, h2, cA2, X2, e2, E2, A2, EA2, st2⟩ := newPE X1 hx hZ (own_g hw (i := 9) rfl) e1 (g := (mkF m 6 #[rv a, .val (.int 2)] [(.int 2), (.ref a)])) rfl (hb hby d1_6) rfl (by decide) (cap := 2) (by decide) (by decide) (by decide) (by decide) (ad := "[D") (by decide)
  obtain ⟨ga, g2⟩ : ∃ z, z = h0.size := ⟨_, rfl⟩
  rw [← g2] at A2 EA2 st2
  have n3 : a ≠ ga := Nat.ne_of_lt (Nat.lt_of_lt_of_eq P0.lt g2.symm)
  have ge_ga : n0 ≤ ga := Nat.le_trans Z0 (Nat.le_of_eq g2.symm)
  have fr_ga : h0.size ≤ ga := Nat.le_trans (Keep.refl h0 []).1 (Nat.le_of_eq g2.symm)
  have K2 : Keep h0 h2 [a] := (Keep.refl _ _).ext E2
  have F4 := P0.ext E2
  have F5 := P1.ext E2
  have F6 := P2.ext E2
  have F7 := P3.ext E2
  have F8 := P4.ext E2
  have F9 := P5.ext E2
  have F10 := P6.ext E2
  have Z2 : n0 ≤ h2.size := Nat.le_trans Z0 E2.1
  have F11 : own_Ar Z h2 ga cA2 .double [(.double (0 : UInt64)), (.double (0 : UInt64))] := own_Ar.new A2 rfl
  refine own_S (mkF m 8 #[rv a, .val (.int 2)] [(.ref ga), (.ref a)]) st2 ?_
  obtain ⟨T12, h12, X12, e12, W12, st12⟩ := putF X2 hx hZ hown (host := "") (Or.inl (own_g hw (i := 10) rfl)) Via.refl e2 F5 F4 (Or.inl (own_g hw (i := 11) rfl)) (own_g hw (i := 1) rfl) (ty := (.array .double)) (by decide) rfl rfl (g := (mkF m 8 #[rv a, .val (.int 2)] [(.ref ga), (.ref a)])) rfl rfl (hb hby d1_8)
  refine own_S (mkF m 11 #[rv a, .val (.int 2)] []) st12 ?_
  have F13 := F4.wr W12
  have F14 := F5.same W12
  have F15 := F6.other W12 (Or.inr (slot_ne (Or.inl (own_g hw (i := 13) rfl)) (Or.inl (own_g hw (i := 11) rfl)) (by decide) (t := (.array .double)) (t' := (.array .double)) (by decide) (by decide)))
  have F16 := F7.other W12 (Or.inr (slot_ne (Or.inl (own_g hw (i := 15) rfl)) (Or.inl (own_g hw (i := 11) rfl)) (by decide) (t := (.array .double)) (t' := (.array .double)) (by decide) (by decide)))
  have F17 := F8.other W12 (Or.inr (slot_ne (Or.inl (own_g hw (i := 30) rfl)) (Or.inl (own_g hw (i := 11) rfl)) (by decide) (t := (.array .double)) (t' := (.array .double)) (by decide) (by decide)))
  have F18 := F9.other W12 (Or.inr (slot_ne (Or.inl (own_g hw (i := 32) rfl)) (Or.inl (own_g hw (i := 11) rfl)) (by decide) (t := (.array .double)) (t' := (.array .double)) (by decide) (by decide)))
  have F19 := F10.other W12 (Or.inr (slot_ne (Or.inl (own_g hw (i := 34) rfl)) (Or.inl (own_g hw (i := 11) rfl)) (by decide) (t := (.array .double)) (t' := (.array .double)) (by decide) (by decide)))
  have F20 := F11.other W12 (Ne.symm n3)
  have F21 := EA2.wr W12
  have N12 := Fr.snoc X12 N0 G_a
  have Z12 : n0 ≤ h12.size := by rw [Wr.size W12]; exact Z2
  have K12 : Keep h0 h12 [a] := K2.wr W12 (Or.inl (List.mem_of_getElem? (i := 0) rfl))
  refine own_S (mkF m 12 #[rv a, .val (.int 2)] [(.ref a)]) (fun _ k => XS.aloadN X12.here hx rfl (hb hby d1_11) rfl rfl k) ?_
  refine own_S (mkF m 13 #[rv a, .val (.int 2)] [(.int 2), (.ref a)]) (fun _ k => XS.iloadN X12.here hx rfl (hb hby d1_12) rfl k) ?_
  obtain ⟨T22, h22, cA22, X22, e22, E22, A22, EA22, st22⟩ := newPE X12 hx hZ (own_g hw (i := 9) rfl) e12 (g := (mkF m 13 #[rv a, .val (.int 2)] [(.int 2), (.ref a)])) rfl (hb hby d1_13) rfl (by decide) (cap := 2) (by decide) (by decide) (by decide) (by decide) (ad := "[D") (by decide)
  obtain ⟨sa, g22⟩ : ∃ z, z = h12.size := ⟨_, rfl⟩
  rw [← g22] at A22 EA22 st22
  have n23 : a ≠ sa := Nat.ne_of_lt (Nat.lt_of_lt_of_eq F13.lt g22.symm)
  have n24 : ga ≠ sa := Nat.ne_of_lt (Nat.lt_of_lt_of_eq F20.lt g22.symm)
  have ge_sa : n0 ≤ sa := Nat.le_trans Z12 (Nat.le_of_eq g22.symm)
  have fr_sa : h0.size ≤ sa := Nat.le_trans K12.1 (Nat.le_of_eq g22.symm)
  have K22 : Keep h0 h22 [a] := K12.ext E22
  have F25 := F13.ext E22
  have F26 := F14.ext E22
  have F27 := F15.ext E22
  have F28 := F16.ext E22
  have F29 := F17.ext E22
  have F30 := F18.ext E22
  have F31 := F19.ext E22
  have F32 := F20.ext E22
  have F33 := F21.ext E22
  have Z22 : n0 ≤ h22.size := Nat.le_trans Z12 E22.1
  have F34 : own_Ar Z h22 sa cA22 .double [(.double (0 : UInt64)), (.double (0 : UInt64))] := own_Ar.new A22 rfl
  refine own_S (mkF m 15 #[rv a, .val (.int 2)] [(.ref sa), (.ref a)]) st22 ?_
  obtain ⟨T35, h35, X35, e35, W35, st35⟩ := putF X22 hx hZ hown (host := "") (Or.inl (own_g hw (i := 12) rfl)) Via.refl e22 F27 F25 (Or.inl (own_g hw (i := 13) rfl)) (own_g hw (i := 1) rfl) (ty := (.array .double)) (by decide) rfl rfl (g := (mkF m 15 #[rv a, .val (.int 2)] [(.ref sa), (.ref a)])) rfl rfl (hb hby d1_15)
  refine own_S (mkF m 18 #[rv a, .val (.int 2)] []) st35 ?_
  have F36 := F25.wr W35
  have F37 := F26.other W35 (Or.inr (slot_ne (Or.inl (own_g hw (i := 11) rfl)) (Or.inl (own_g hw (i := 13) rfl)) (by decide) (t := (.array .double)) (t' := (.array .double)) (by decide) (by decide)))
  have F38 := F27.same W35
  have F39 := F28.other W35 (Or.inr (slot_ne (Or.inl (own_g hw (i := 15) rfl)) (Or.inl (own_g hw (i := 13) rfl)) (by decide) (t := (.array .double)) (t' := (.array .double)) (by decide) (by decide)))
  have F40 := F29.other W35 (Or.inr (slot_ne (Or.inl (own_g hw (i := 30) rfl)) (Or.inl (own_g hw (i := 13) rfl)) (by decide) (t := (.array .double)) (t' := (.array .double)) (by decide) (by decide)))
  have F41 := F30.other W35 (Or.inr (slot_ne (Or.inl (own_g hw (i := 32) rfl)) (Or.inl (own_g hw (i := 13) rfl)) (by decide) (t := (.array .double)) (t' := (.array .double)) (by decide) (by decide)))
  have F42 := F31.other W35 (Or.inr (slot_ne (Or.inl (own_g hw (i := 34) rfl)) (Or.inl (own_g hw (i := 13) rfl)) (by decide) (t := (.array .double)) (t' := (.array .double)) (by decide) (by decide)))
  have F43 := F32.other W35 (Ne.symm n3)
  have F44 := F33.wr W35
  have F45 := F34.other W35 (Ne.symm n23)
  have F46 := EA22.wr W35
  have N35 := Fr.snoc X35 N12 G_a
  have Z35 : n0 ≤ h35.size := by rw [Wr.size W35]; exact Z22
  have K35 : Keep h0 h35 [a] := K22.wr W35 (Or.inl (List.mem_of_getElem? (i := 0) rfl))
  refine own_S (mkF m 19 #[rv a, .val (.int 2)] [(.ref a)]) (fun _ k => XS.aloadN X35.here hx rfl (hb hby d1_18) rfl rfl k) ?_
  refine own_S (mkF m 20 #[rv a, .val (.int 2)] [(.int 2), (.ref a)]) (fun _ k => XS.iloadN X35.here hx rfl (hb hby d1_19) rfl k) ?_
  obtain ⟨T47, h47, cA47, X47, e47, E47, A47, EA47, st47⟩ := newPE X35 hx hZ (own_g hw (i := 9) rfl) e35 (g := (mkF m 20 #[rv a, .val (.int 2)] [(.int 2), (.ref a)])) rfl (hb hby d1_20) rfl (by decide) (cap := 2) (by decide) (by decide) (by decide) (by decide) (ad := "[D") (by decide)
  obtain ⟨la, g47⟩ : ∃ z, z = h35.size := ⟨_, rfl⟩
  rw [← g47] at A47 EA47 st47
  have n48 : a ≠ la := Nat.ne_of_lt (Nat.lt_of_lt_of_eq F36.lt g47.symm)
  have n49 : ga ≠ la := Nat.ne_of_lt (Nat.lt_of_lt_of_eq F43.lt g47.symm)
  have n50 : sa ≠ la := Nat.ne_of_lt (Nat.lt_of_lt_of_eq F45.lt g47.symm)
  have ge_la : n0 ≤ la := Nat.le_trans Z35 (Nat.le_of_eq g47.symm)
  have fr_la : h0.size ≤ la := Nat.le_trans K35.1 (Nat.le_of_eq g47.symm)
  have K47 : Keep h0 h47 [a] := K35.ext E47
  have F51 := F36.ext E47
  have F52 := F37.ext E47
  have F53 := F38.ext E47
  have F54 := F39.ext E47
  have F55 := F40.ext E47
  have F56 := F41.ext E47
  have F57 := F42.ext E47
  have F58 := F43.ext E47
  have F59 := F44.ext E47
  have F60 := F45.ext E47
  have F61 := F46.ext E47
  have Z47 : n0 ≤ h47.size := Nat.le_trans Z35 E47.1
  have F62 : own_Ar Z h47 la cA47 .double [(.double (0 : UInt64)), (.double (0 : UInt64))] := own_Ar.new A47 rfl
  refine own_S (mkF m 22 #[rv a, .val (.int 2)] [(.ref la), (.ref a)]) st47 ?_
  obtain ⟨T63, h63, X63, e63, W63, st63⟩ := putF X47 hx hZ hown (host := "") (Or.inl (own_g hw (i := 14) rfl)) Via.refl e47 F54 F51 (Or.inl (own_g hw (i := 15) rfl)) (own_g hw (i := 1) rfl) (ty := (.array .double)) (by decide) rfl rfl (g := (mkF m 22 #[rv a, .val (.int 2)] [(.ref la), (.ref a)])) rfl rfl (hb hby d1_22)
  refine own_S (mkF m 25 #[rv a, .val (.int 2)] []) st63 ?_
  have F64 := F51.wr W63
  have F65 := F52.other W63 (Or.inr (slot_ne (Or.inl (own_g hw (i := 11) rfl)) (Or.inl (own_g hw (i := 15) rfl)) (by decide) (t := (.array .double)) (t' := (.array .double)) (by decide) (by decide)))
  have F66 := F53.other W63 (Or.inr (slot_ne (Or.inl (own_g hw (i := 13) rfl)) (Or.inl (own_g hw (i := 15) rfl)) (by decide) (t := (.array .double)) (t' := (.array .double)) (by decide) (by decide)))
  have F67 := F54.same W63
  have F68 := F55.other W63 (Or.inr (slot_ne (Or.inl (own_g hw (i := 30) rfl)) (Or.inl (own_g hw (i := 15) rfl)) (by decide) (t := (.array .double)) (t' := (.array .double)) (by decide) (by decide)))
  have F69 := F56.other W63 (Or.inr (slot_ne (Or.inl (own_g hw (i := 32) rfl)) (Or.inl (own_g hw (i := 15) rfl)) (by decide) (t := (.array .double)) (t' := (.array .double)) (by decide) (by decide)))
  have F70 := F57.other W63 (Or.inr (slot_ne (Or.inl (own_g hw (i := 34) rfl)) (Or.inl (own_g hw (i := 15) rfl)) (by decide) (t := (.array .double)) (t' := (.array .double)) (by decide) (by decide)))
  have F71 := F58.other W63 (Ne.symm n3)
  have F72 := F59.wr W63
  have F73 := F60.other W63 (Ne.symm n23)
  have F74 := F61.wr W63
  have F75 := F62.other W63 (Ne.symm n48)
  have F76 := EA47.wr W63
  have N63 := Fr.snoc X63 N35 G_a
  have Z63 : n0 ≤ h63.size := by rw [Wr.size W63]; exact Z47
  have K63 : Keep h0 h63 [a] := K47.wr W63 (Or.inl (List.mem_of_getElem? (i := 0) rfl))
  refine own_S (mkF m 26 #[rv a, .val (.int 2)] [(.ref a)]) (fun _ k => XS.aloadN X63.here hx rfl (hb hby d1_25) rfl rfl k) ?_
  obtain ⟨T77, X77, e77, st77⟩ := getF X63 hx hZ hown (host := "") (Or.inl (own_g hw (i := 14) rfl)) Via.refl e63 F67 (g := (mkF m 26 #[rv a, .val (.int 2)] [(.ref a)])) rfl rfl (hb hby d1_26)
  refine own_S (mkF m 29 #[rv a, .val (.int 2)] [(.ref la)]) st77 ?_
  refine own_S (mkF m 30 #[rv a, .val (.int 2)] [(.double FP.dconst1), (.ref la)]) (fun _ k => XS.dconst1 X77.here hx rfl (hb hby d1_29) rfl k) ?_
  obtain ⟨_, _, ⟨T78, L78, k78, n78⟩, -, X78, ⟨Lc78, hQ78, l78, y78, z78⟩, st78⟩ := Jvm.LawKit.callS X77 hx (y := own_y0) hown (mvT hZ (own_g hw (i := 16) rfl)) (mvT hZ (own_g hw (i := 17) rfl)) (mvT hZ (own_g hw (i := 18) rfl)) (mvT hZ (own_g hw (i := 19) rfl)) (by decide) (backOf (W := 0) (own_rmfl l Z a0 hw [] (la) (cA47) h63 n0 Z63 F75 ge_la) hZ (own_g hw (i := 19) rfl) (own_g hw (i := 18) rfl) (by decide) (by decide)) (g := (mkF m 30 #[rv a, .val (.int 2)] [(.double FP.dconst1), (.ref la)])) rfl (by rw [hml]; rfl) (argsL := [(.ref la), (.double FP.dconst1)]) (rest := []) (lenOf own_pd___DD_V rfl) rfl (by show 2 * 0 + _ ≤ _; exact Nat.le_of_eq rfl) (hb hby d1_30) (fun _ _ => ⟨rfl, e77, (by decide : 3 + 0 ≤ _), (by decide : 6 + 0 ≤ _)⟩)
  dsimp only [Pt.U, Pt.locs, Pt.cells, Pt.slots] at X78 l78 y78 z78 st78 hQ78
  subst l78 y78 z78
  obtain ⟨rfl, N78q, K78q, F79⟩ := hQ78
  have N78 := Fr.app N63 N78q
  refine own_S (mkF m 33 #[rv a, .val (.int 2)] []) (fun _ k => st78 _ k) ?_
  have K78 : Keep h0 T78.heap [a] := K63.trans K78q (allS (Or.inr fr_la) all0)
  have F80 := F64.keep K78q
  have F81 := F65.keep K78q (ninS n48 nin0)
  have F82 := F66.keep K78q (ninS n48 nin0)
  have F83 := F67.keep K78q (ninS n48 nin0)
  have F84 := F68.keep K78q (ninS n48 nin0)
  have F85 := F69.keep K78q (ninS n48 nin0)
  have F86 := F70.keep K78q (ninS n48 nin0)
  have F87 := F71.keep K78q (ninS n49 nin0)
  have F88 := F72.keep K78q
  have F89 := F73.keep K78q (ninS n50 nin0)
  have F90 := F74.keep K78q
  have F91 := F76.keep K78q
  have Z78 : n0 ≤ T78.heap.size := Nat.le_trans Z63 K78q.1
  refine own_S (mkF m 34 #[rv a, .val (.int 2)] [(.ref a)]) (fun _ k => XS.aloadN X78.here hx rfl (hb hby d1_33) rfl rfl k) ?_
  refine own_S (mkF m 35 #[rv a, .val (.int 2)] [(.ref a), (.ref a)]) (fun _ k => XS.aloadN X78.here hx rfl (hb hby d1_34) rfl rfl k) ?_
  obtain ⟨T92, X92, e92, st92⟩ := getF X78 hx hZ hown (host := "") (Or.inl (own_g hw (i := 10) rfl)) Via.refl rfl F81 (g := (mkF m 35 #[rv a, .val (.int 2)] [(.ref a), (.ref a)])) rfl rfl (hb hby d1_35)
  refine own_S (mkF m 38 #[rv a, .val (.int 2)] [(.ref ga), (.ref a)]) st92 ?_
  obtain ⟨T93, h93, X93, e93, E93, A93, EA93, st93⟩ := own_clone X92 hx hZ hown (own_g hw (i := 20) rfl) (own_g hw (i := 21) rfl) (own_g hw (i := 25) rfl) (own_g hw (i := 23) rfl) (own_g hw (i := 24) rfl) (own_g hw (i := 26) rfl) e92 F87 F88 (by intro v hv; simp only [List.mem_cons, List.not_mem_nil, or_false] at hv; rcases hv with rfl | rfl <;> rfl) (g := (mkF m 38 #[rv a, .val (.int 2)] [(.ref ga), (.ref a)])) rfl (by rw [hml]; rfl) rfl (hb hby d1_38) (by decide) (W := 1) (cap := 2) (by show 2 * 0 + _ ≤ _; exact Nat.le_of_eq rfl) (by decide) (show (2 : Nat) ≤ 2 from by decide) (by decide) (by decide)
  obtain ⟨ng, g93⟩ : ∃ z, z = T78.heap.size := ⟨_, rfl⟩
  rw [← g93] at A93 EA93 st93
  have n94 : a ≠ ng := Nat.ne_of_lt (Nat.lt_of_lt_of_eq F80.lt g93.symm)
  have n95 : ga ≠ ng := Nat.ne_of_lt (Nat.lt_of_lt_of_eq F87.lt g93.symm)
  have n96 : sa ≠ ng := Nat.ne_of_lt (Nat.lt_of_lt_of_eq F89.lt g93.symm)
  have n97 : la ≠ ng := Nat.ne_of_lt (Nat.lt_of_lt_of_eq F91.lt g93.symm)
  have ge_ng : n0 ≤ ng := Nat.le_trans Z78 (Nat.le_of_eq g93.symm)
  have fr_ng : h0.size ≤ ng := Nat.le_trans K78.1 (Nat.le_of_eq g93.symm)
  have K93 : Keep h0 h93 [a] := K78.ext E93
  have F98 := F80.ext E93
  have F99 := F81.ext E93
  have F100 := F82.ext E93
  have F101 := F83.ext E93
  have F102 := F84.ext E93
  have F103 := F85.ext E93
  have F104 := F86.ext E93
  have F105 := F87.ext E93
  have F106 := F88.ext E93
  have F107 := F89.ext E93
  have F108 := F90.ext E93
  have F109 := F91.ext E93
  have F110 := F79.ext E93
  have Z93 : n0 ≤ h93.size := Nat.le_trans Z78 E93.1
  refine own_S (mkF m 41 #[rv a, .val (.int 2)] [(.ref ng), (.ref a)]) st93 ?_
  obtain ⟨T111, X111, e111, st111⟩ := castY X93 hx hZ hown (own_g hw (i := 27) rfl) e93 (Ins.self EA93) (g := (mkF m 41 #[rv a, .val (.int 2)] [(.ref ng), (.ref a)])) rfl rfl (hb hby d1_41)
  refine own_S (mkF m 44 #[rv a, .val (.int 2)] [(.ref ng), (.ref a)]) st111 ?_
  obtain ⟨T112, h112, X112, e112, W112, st112⟩ := putF X111 hx hZ hown (host := "") (Or.inl (own_g hw (i := 29) rfl)) Via.refl e111 F102 F98 (Or.inl (own_g hw (i := 30) rfl)) (own_g hw (i := 1) rfl) (ty := (.array .double)) (by decide) rfl rfl (g := (mkF m 44 #[rv a, .val (.int 2)] [(.ref ng), (.ref a)])) rfl rfl (hb hby d1_44)
  refine own_S (mkF m 47 #[rv a, .val (.int 2)] []) st112 ?_
  have F113 := F98.wr W112
  have F114 := F99.other W112 (Or.inr (slot_ne (Or.inl (own_g hw (i := 11) rfl)) (Or.inl (own_g hw (i := 30) rfl)) (by decide) (t := (.array .double)) (t' := (.array .double)) (by decide) (by decide)))
  have F115 := F100.other W112 (Or.inr (slot_ne (Or.inl (own_g hw (i := 13) rfl)) (Or.inl (own_g hw (i := 30) rfl)) (by decide) (t := (.array .double)) (t' := (.array .double)) (by decide) (by decide)))
  have F116 := F101.other W112 (Or.inr (slot_ne (Or.inl (own_g hw (i := 15) rfl)) (Or.inl (own_g hw (i := 30) rfl)) (by decide) (t := (.array .double)) (t' := (.array .double)) (by decide) (by decide)))
  have F117 := F102.same W112
  have F118 := F103.other W112 (Or.inr (slot_ne (Or.inl (own_g hw (i := 32) rfl)) (Or.inl (own_g hw (i := 30) rfl)) (by decide) (t := (.array .double)) (t' := (.array .double)) (by decide) (by decide)))
  have F119 := F104.other W112 (Or.inr (slot_ne (Or.inl (own_g hw (i := 34) rfl)) (Or.inl (own_g hw (i := 30) rfl)) (by decide) (t := (.array .double)) (t' := (.array .double)) (by decide) (by decide)))
  have F120 := F105.other W112 (Ne.symm n3)
  have F121 := F106.wr W112
  have F122 := F107.other W112 (Ne.symm n23)
  have F123 := F108.wr W112
  have F124 := F109.wr W112
  have F125 := F110.other W112 (Ne.symm n48)
  have F126 := A93.other W112 (Ne.symm n94)
  have F127 := EA93.wr W112
  have N112 := Fr.snoc X112 N78 G_a
  have Z112 : n0 ≤ h112.size := by rw [Wr.size W112]; exact Z93
  have K112 : Keep h0 h112 [a] := K93.wr W112 (Or.inl (List.mem_of_getElem? (i := 0) rfl))
  refine own_S (mkF m 48 #[rv a, .val (.int 2)] [(.ref a)]) (fun _ k => XS.aloadN X112.here hx rfl (hb hby d1_47) rfl rfl k) ?_
  refine own_S (mkF m 49 #[rv a, .val (.int 2)] [(.ref a), (.ref a)]) (fun _ k => XS.aloadN X112.here hx rfl (hb hby d1_48) rfl rfl k) ?_
  obtain ⟨T128, X128, e128, st128⟩ := getF X112 hx hZ hown (host := "") (Or.inl (own_g hw (i := 12) rfl)) Via.refl e112 F115 (g := (mkF m 49 #[rv a, .val (.int 2)] [(.ref a), (.ref a)])) rfl rfl (hb hby d1_49)
  refine own_S (mkF m 52 #[rv a, .val (.int 2)] [(.ref sa), (.ref a)]) st128 ?_
  obtain ⟨T129, h129, X129, e129, E129, A129, EA129, st129⟩ := own_clone X128 hx hZ hown (own_g hw (i := 20) rfl) (own_g hw (i := 21) rfl) (own_g hw (i := 25) rfl) (own_g hw (i := 23) rfl) (own_g hw (i := 24) rfl) (own_g hw (i := 26) rfl) e128 F122 F123 (by intro v hv; simp only [List.mem_cons, List.not_mem_nil, or_false] at hv; rcases hv with rfl | rfl <;> rfl) (g := (mkF m 52 #[rv a, .val (.int 2)] [(.ref sa), (.ref a)])) rfl (by rw [hml]; rfl) rfl (hb hby d1_52) (by decide) (W := 1) (cap := 2) (by show 2 * 0 + _ ≤ _; exact Nat.le_of_eq rfl) (by decide) (show (2 : Nat) ≤ 2 from by decide) (by decide) (by decide)
  obtain ⟨ns, g129⟩ : ∃ z, z = h112.size := ⟨_, rfl⟩
  rw [← g129] at A129 EA129 st129
  have n130 : a ≠ ns := Nat.ne_of_lt (Nat.lt_of_lt_of_eq F113.lt g129.symm)
  have n131 : ga ≠ ns := Nat.ne_of_lt (Nat.lt_of_lt_of_eq F120.lt g129.symm)
  have n132 : sa ≠ ns := Nat.ne_of_lt (Nat.lt_of_lt_of_eq F122.lt g129.symm)
  have n133 : la ≠ ns := Nat.ne_of_lt (Nat.lt_of_lt_of_eq F124.lt g129.symm)
  have n134 : ng ≠ ns := Nat.ne_of_lt (Nat.lt_of_lt_of_eq F126.lt g129.symm)
  have ge_ns : n0 ≤ ns := Nat.le_trans Z112 (Nat.le_of_eq g129.symm)
  have fr_ns : h0.size ≤ ns := Nat.le_trans K112.1 (Nat.le_of_eq g129.symm)
  have K129 : Keep h0 h129 [a] := K112.ext E129
  have F135 := F113.ext E129
  have F136 := F114.ext E129
  have F137 := F115.ext E129
  have F138 := F116.ext E129
  have F139 := F117.ext E129
  have F140 := F118.ext E129
  have F141 := F119.ext E129
  have F142 := F120.ext E129
  have F143 := F121.ext E129
  have F144 := F122.ext E129
  have F145 := F123.ext E129
  have F146 := F124.ext E129
  have F147 := F125.ext E129
  have F148 := F126.ext E129
  have F149 := F127.ext E129
  have Z129 : n0 ≤ h129.size := Nat.le_trans Z112 E129.1
  refine own_S (mkF m 55 #[rv a, .val (.int 2)] [(.ref ns), (.ref a)]) st129 ?_
  obtain ⟨T150, X150, e150, st150⟩ := castY X129 hx hZ hown (own_g hw (i := 27) rfl) e129 (Ins.self EA129) (g := (mkF m 55 #[rv a, .val (.int 2)] [(.ref ns), (.ref a)])) rfl rfl (hb hby d1_55)
  refine own_S (mkF m 58 #[rv a, .val (.int 2)] [(.ref ns), (.ref a)]) st150 ?_
  obtain ⟨T151, h151, X151, e151, W151, st151⟩ := putF X150 hx hZ hown (host := "") (Or.inl (own_g hw (i := 31) rfl)) Via.refl e150 F140 F135 (Or.inl (own_g hw (i := 32) rfl)) (own_g hw (i := 1) rfl) (ty := (.array .double)) (by decide) rfl rfl (g := (mkF m 58 #[rv a, .val (.int 2)] [(.ref ns), (.ref a)])) rfl rfl (hb hby d1_58)
  refine own_S (mkF m 61 #[rv a, .val (.int 2)] []) st151 ?_
  have F152 := F135.wr W151
  have F153 := F136.other W151 (Or.inr (slot_ne (Or.inl (own_g hw (i := 11) rfl)) (Or.inl (own_g hw (i := 32) rfl)) (by decide) (t := (.array .double)) (t' := (.array .double)) (by decide) (by decide)))
  have F154 := F137.other W151 (Or.inr (slot_ne (Or.inl (own_g hw (i := 13) rfl)) (Or.inl (own_g hw (i := 32) rfl)) (by decide) (t := (.array .double)) (t' := (.array .double)) (by decide) (by decide)))
  have F155 := F138.other W151 (Or.inr (slot_ne (Or.inl (own_g hw (i := 15) rfl)) (Or.inl (own_g hw (i := 32) rfl)) (by decide) (t := (.array .double)) (t' := (.array .double)) (by decide) (by decide)))
  have F156 := F139.other W151 (Or.inr (slot_ne (Or.inl (own_g hw (i := 30) rfl)) (Or.inl (own_g hw (i := 32) rfl)) (by decide) (t := (.array .double)) (t' := (.array .double)) (by decide) (by decide)))
  have F157 := F140.same W151
  have F158 := F141.other W151 (Or.inr (slot_ne (Or.inl (own_g hw (i := 34) rfl)) (Or.inl (own_g hw (i := 32) rfl)) (by decide) (t := (.array .double)) (t' := (.array .double)) (by decide) (by decide)))
  have F159 := F142.other W151 (Ne.symm n3)
  have F160 := F143.wr W151
  have F161 := F144.other W151 (Ne.symm n23)
  have F162 := F145.wr W151
  have F163 := F146.wr W151
  have F164 := F147.other W151 (Ne.symm n48)
  have F165 := F148.other W151 (Ne.symm n94)
  have F166 := F149.wr W151
  have F167 := A129.other W151 (Ne.symm n130)
  have F168 := EA129.wr W151
  have N151 := Fr.snoc X151 N112 G_a
  have Z151 : n0 ≤ h151.size := by rw [Wr.size W151]; exact Z129
  have K151 : Keep h0 h151 [a] := K129.wr W151 (Or.inl (List.mem_of_getElem? (i := 0) rfl))
  refine own_S (mkF m 62 #[rv a, .val (.int 2)] [(.ref a)]) (fun _ k => XS.aloadN X151.here hx rfl (hb hby d1_61) rfl rfl k) ?_
  refine own_S (mkF m 63 #[rv a, .val (.int 2)] [(.ref a), (.ref a)]) (fun _ k => XS.aloadN X151.here hx rfl (hb hby d1_62) rfl rfl k) ?_
  obtain ⟨T169, X169, e169, st169⟩ := getF X151 hx hZ hown (host := "") (Or.inl (own_g hw (i := 14) rfl)) Via.refl e151 F155 (g := (mkF m 63 #[rv a, .val (.int 2)] [(.ref a), (.ref a)])) rfl rfl (hb hby d1_63)
  refine own_S (mkF m 66 #[rv a, .val (.int 2)] [(.ref la), (.ref a)]) st169 ?_
  obtain ⟨T170, h170, X170, e170, E170, A170, EA170, st170⟩ := own_clone X169 hx hZ hown (own_g hw (i := 20) rfl) (own_g hw (i := 21) rfl) (own_g hw (i := 25) rfl) (own_g hw (i := 23) rfl) (own_g hw (i := 24) rfl) (own_g hw (i := 26) rfl) e169 F164 F163 (by intro v hv; simp only [List.mem_cons, List.not_mem_nil, or_false] at hv; rcases hv with rfl | rfl <;> rfl) (g := (mkF m 66 #[rv a, .val (.int 2)] [(.ref la), (.ref a)])) rfl (by rw [hml]; rfl) rfl (hb hby d1_66) (by decide) (W := 1) (cap := 2) (by show 2 * 0 + _ ≤ _; exact Nat.le_of_eq rfl) (by decide) (show (2 : Nat) ≤ 2 from by decide) (by decide) (by decide)
  obtain ⟨nl, g170⟩ : ∃ z, z = h151.size := ⟨_, rfl⟩
  rw [← g170] at A170 EA170 st170
  have n171 : a ≠ nl := Nat.ne_of_lt (Nat.lt_of_lt_of_eq F152.lt g170.symm)
  have n172 : ga ≠ nl := Nat.ne_of_lt (Nat.lt_of_lt_of_eq F159.lt g170.symm)
  have n173 : sa ≠ nl := Nat.ne_of_lt (Nat.lt_of_lt_of_eq F161.lt g170.symm)
  have n174 : la ≠ nl := Nat.ne_of_lt (Nat.lt_of_lt_of_eq F163.lt g170.symm)
  have n175 : ng ≠ nl := Nat.ne_of_lt (Nat.lt_of_lt_of_eq F165.lt g170.symm)
  have n176 : ns ≠ nl := Nat.ne_of_lt (Nat.lt_of_lt_of_eq F167.lt g170.symm)
  have ge_nl : n0 ≤ nl := Nat.le_trans Z151 (Nat.le_of_eq g170.symm)
  have fr_nl : h0.size ≤ nl := Nat.le_trans K151.1 (Nat.le_of_eq g170.symm)
  have K170 : Keep h0 h170 [a] := K151.ext E170
  have F177 := F152.ext E170
  have F178 := F153.ext E170
  have F179 := F154.ext E170
  have F180 := F155.ext E170
  have F181 := F156.ext E170
  have F182 := F157.ext E170
  have F183 := F158.ext E170
  have F184 := F159.ext E170
  have F185 := F160.ext E170
  have F186 := F161.ext E170
  have F187 := F162.ext E170
  have F188 := F163.ext E170
  have F189 := F164.ext E170
  have F190 := F165.ext E170
  have F191 := F166.ext E170
  have F192 := F167.ext E170
  have F193 := F168.ext E170
  have Z170 : n0 ≤ h170.size := Nat.le_trans Z151 E170.1
  refine own_S (mkF m 69 #[rv a, .val (.int 2)] [(.ref nl), (.ref a)]) st170 ?_
  obtain ⟨T194, X194, e194, st194⟩ := castY X170 hx hZ hown (own_g hw (i := 27) rfl) e170 (Ins.self EA170) (g := (mkF m 69 #[rv a, .val (.int 2)] [(.ref nl), (.ref a)])) rfl rfl (hb hby d1_69)
  refine own_S (mkF m 72 #[rv a, .val (.int 2)] [(.ref nl), (.ref a)]) st194 ?_
  obtain ⟨T195, h195, X195, e195, W195, st195⟩ := putF X194 hx hZ hown (host := "") (Or.inl (own_g hw (i := 33) rfl)) Via.refl e194 F183 F177 (Or.inl (own_g hw (i := 34) rfl)) (own_g hw (i := 1) rfl) (ty := (.array .double)) (by decide) rfl rfl (g := (mkF m 72 #[rv a, .val (.int 2)] [(.ref nl), (.ref a)])) rfl rfl (hb hby d1_72)
  refine own_S (mkF m 75 #[rv a, .val (.int 2)] []) st195 ?_
  have F196 := F177.wr W195
  have F197 := F178.other W195 (Or.inr (slot_ne (Or.inl (own_g hw (i := 11) rfl)) (Or.inl (own_g hw (i := 34) rfl)) (by decide) (t := (.array .double)) (t' := (.array .double)) (by decide) (by decide)))
  have F198 := F179.other W195 (Or.inr (slot_ne (Or.inl (own_g hw (i := 13) rfl)) (Or.inl (own_g hw (i := 34) rfl)) (by decide) (t := (.array .double)) (t' := (.array .double)) (by decide) (by decide)))
  have F199 := F180.other W195 (Or.inr (slot_ne (Or.inl (own_g hw (i := 15) rfl)) (Or.inl (own_g hw (i := 34) rfl)) (by decide) (t := (.array .double)) (t' := (.array .double)) (by decide) (by decide)))
  have F200 := F181.other W195 (Or.inr (slot_ne (Or.inl (own_g hw (i := 30) rfl)) (Or.inl (own_g hw (i := 34) rfl)) (by decide) (t := (.array .double)) (t' := (.array .double)) (by decide) (by decide)))
  have F201 := F182.other W195 (Or.inr (slot_ne (Or.inl (own_g hw (i := 32) rfl)) (Or.inl (own_g hw (i := 34) rfl)) (by decide) (t := (.array .double)) (t' := (.array .double)) (by decide) (by decide)))
  have F202 := F183.same W195
  have F203 := F184.other W195 (Ne.symm n3)
  have F204 := F185.wr W195
  have F205 := F186.other W195 (Ne.symm n23)
  have F206 := F187.wr W195
  have F207 := F188.wr W195
  have F208 := F189.other W195 (Ne.symm n48)
  have F209 := F190.other W195 (Ne.symm n94)
  have F210 := F191.wr W195
  have F211 := F192.other W195 (Ne.symm n130)
  have F212 := F193.wr W195
  have F213 := A170.other W195 (Ne.symm n171)
  have F214 := EA170.wr W195
  have N195 := Fr.snoc X195 N151 G_a
  have Z195 : n0 ≤ h195.size := by rw [Wr.size W195]; exact Z170
  have K195 : Keep h0 h195 [a] := K170.wr W195 (Or.inl (List.mem_of_getElem? (i := 0) rfl))
  exact own_ret0 X195 hx hlk hret (hb hby d1_75) (by rw [e195]; exact ⟨ga, sa, la, ng, ns, nl, cA2, cA22, cA47, cA2, cA22, cA47, rfl, N195, K195, F196, F197, F198, F199, F200, F201, F202, F203, F205, F208, F209, F211, F213, fr_ga, fr_sa, fr_la, fr_ng, fr_ns, fr_nl, n24, n49, n95, n131, n172, n50, n96, n132, n173, n97, n133, n174, n134, n175, n176⟩) (by decide) (by decide)
theorem d4_0 : decode prog_28_method_5_code 0 = .ok (.aload_n 0, 1) := by decide +kernel
theorem d4_1 : decode prog_28_method_5_code 1 = .ok (.getfield 30, 3) := by decide +kernel
theorem d4_4 : decode prog_28_method_5_code 4 = .ok (.iload_n 1, 1) := by decide +kernel
theorem d4_5 : decode prog_28_method_5_code 5 = .ok (.dload_n 2, 1) := by decide +kernel
theorem d4_6 : decode prog_28_method_5_code 6 = .ok (.dastore, 1) := by decide +kernel
theorem d4_7 : decode prog_28_method_5_code 7 = .ok (.aload_n 0, 1) := by decide +kernel
theorem d4_8 : decode prog_28_method_5_code 8 = .ok (.getfield 33, 3) := by decide +kernel
theorem d4_11 : decode prog_28_method_5_code 11 = .ok (.iload_n 1, 1) := by decide +kernel
theorem d4_12 : decode prog_28_method_5_code 12 = .ok (.dload 4, 2) := by decide +kernel
theorem d4_14 : decode prog_28_method_5_code 14 = .ok (.dastore, 1) := by decide +kernel
theorem d4_15 : decode prog_28_method_5_code 15 = .ok (.aload_n 0, 1) := by decide +kernel
theorem d4_16 : decode prog_28_method_5_code 16 = .ok (.getfield 36, 3) := by decide +kernel
theorem d4_19 : decode prog_28_method_5_code 19 = .ok (.iload_n 1, 1) := by decide +kernel
theorem d4_20 : decode prog_28_method_5_code 20 = .ok (.dload 6, 2) := by decide +kernel
theorem d4_22 : decode prog_28_method_5_code 22 = .ok (.dastore, 1) := by decide +kernel
theorem d4_23 : decode prog_28_method_5_code 23 = .ok (.return_, 1) := by decide +kernel
theorem own_pf_sn0 : plainFor own_y2 = true := by first | exact plainFor_of_name (show plainName "com/example/accrue/accrue/exact/Paths" = true by first | (simp [plainName, overriddenIn]; done) | decide +kernel) | decide +kernel
theorem own_ef_sn0 (m : MethodId) (y0 : Addr) (y1 : Int32) (y2 : UInt64) (y3 : UInt64) (y4 : UInt64) : entryFrame m #[(.ref y0), (.int y1), (.double y2), (.double y3), (.double y4)] 8 = mkF m 0 #[rv y0, iv y1, .val (.double y2), .second, .val (.double y3), .second, .val (.double y4), .second] [] := by first | (simp [entryFrame, mkF, argsToLocals, Value.category]; done) | rfl
def own_Qsn0 (Z : State) (a : Addr) (ng : Addr) (ns : Addr) (nl : Addr) (k3 : ClassId) (k4 : ClassId) (k5 : ClassId) (x1 : UInt64) (x2 : UInt64) (x3 : UInt64) (u3 : Value) (u4 : Value) (u5 : Value) (v3 : Value) (v4 : Value) (v5 : Value) (h0 : Heap) (n0 : Nat) (v : Option Value) (h : Heap) (L : List Loc) : Prop := v = none ∧ Fr n0 L ∧ Keep h0 h [ng, ns, nl] ∧ own_Ar Z h ng k3 .double [(.double x1), v3] ∧ own_Ar Z h ns k4 .double [(.double x2), v4] ∧ own_Ar Z h nl k5 .double [(.double x3), v5]
set_option maxRecDepth 65536 in
set_option maxHeartbeats 40000000 in
theorem own_rmsn0 (l : Launch) (Z : State) (a0 : Array Value) (hw : ∀ d ∈ tables_1, d.before a0 Z = true) (ws : List Jvm.Cond) (a : Addr) (ng : Addr) (ns : Addr) (nl : Addr) (k3 : ClassId) (k4 : ClassId) (k5 : ClassId) (x1 : UInt64) (x2 : UInt64) (x3 : UInt64) (u3 : Value) (u4 : Value) (u5 : Value) (v3 : Value) (v4 : Value) (v5 : Value) (h0 : Heap) (n0 : Nat) (Z0 : n0 ≤ h0.size) (P0 : Fld Z h0 a "com/example/accrue/accrue/exact/Paths" "nextGathered" "[D" (.ref ng)) (P1 : Fld Z h0 a "com/example/accrue/accrue/exact/Paths" "nextStaying" "[D" (.ref ns)) (P2 : Fld Z h0 a "com/example/accrue/accrue/exact/Paths" "nextLeaving" "[D" (.ref nl)) (P3 : own_Ar Z h0 ng k3 .double [u3, v3]) (P4 : own_Ar Z h0 ns k4 .double [u4, v4]) (P5 : own_Ar Z h0 nl k5 .double [u5, v5]) (G_ng : n0 ≤ ng) (G_ns : n0 ≤ ns) (G_nl : n0 ≤ nl) (NE_a_ng : a ≠ ng) (NE_a_ns : a ≠ ns) (NE_a_nl : a ≠ nl) (NE_ng_ns : ng ≠ ns) (NE_ng_nl : ng ≠ nl) (NE_ns_nl : ns ≠ nl) :
    MetFree l own_y2 (head1 (Jvm.Cond.code own_y2 prog_28_method_5_code 8 none :: ws) ({ frames := 0, cells := 0, slots := 0, locals := 0 } : Room)) (fun az Uz => az = #[(.ref a), (.int 0), (.double x1), (.double x2), (.double x3)] ∧ Z.Warmed39 Uz.vm ∧ Uz.heap = h0) (fun _ _ _ _ _ => True) (fun _ U o U' => ∃ v L, o = .returned v ∧ own_Qsn0 Z a ng ns nl k3 k4 k5 x1 x2 x3 u3 u4 u5 v3 v4 v5 h0 n0 v U'.heap L ∧ FrameEnd U o U' L ({ frames := 0, cells := 0, slots := 0, locals := 0 } : Room).cells ({ frames := 0, cells := 0, slots := 0, locals := 0 } : Room).slots) := by
  refine MetFree.of_bodySF own_pf_sn0 hisR ?_
  intro p e s m args below meth c s₁ Bd hml0 hP hK
  obtain ⟨rfl, hZ, hh⟩ := hP
  have hx := Bd.exec
  have hby := Bd.bytes
  have hml : c.maxLocals = 8 := hml0
  have hown : s.vm.findClass "com/example/accrue/accrue/exact/Paths" = some m.cls := findClass_of_methodNamed Bd.named
  have hnm := (name_of_methodNamed Bd.named Bd.method).1
  have hlk : meth.locks = false := BodyLoose.notSynchronized Bd
  have hret := Bd.returns
  have X0 : Stand p l e ({ frames := 0, cells := 0, slots := 0, locals := 0 } : Room) s m #[(.ref a), (.int 0), (.double x1), (.double x2), (.double x3)] below meth c s₁ [] 0 0 := Stand.of_body Bd
  have e0 : s₁.heap = h0 := by rw [← hh, Bd.state]; rfl
  have N0 := Fr.nil n0
  show own_E p e below (own_K s (own_Qsn0 Z a ng ns nl k3 k4 k5 x1 x2 x3 u3 u4 u5 v3 v4 v5 h0 n0) ({ frames := 0, cells := 0, slots := 0, locals := 0 } : Room).cells ({ frames := 0, cells := 0, slots := 0, locals := 0 } : Room).slots) s₁ (entryFrame m #[(.ref a), (.int 0), (.double x1), (.double x2), (.double x3)] 8)
  refine own_S (mkF m 0 #[rv a, .val (.int 0), .val (.double x1), .second, .val (.double x2), .second, .val (.double x3), .second] []) (fun _ k => castTop (own_ef_sn0 m (a) ((0 : Int32)) (x1) (x2) (x3)) k) ?_
  refine own_S (mkF m 1 #[rv a, .val (.int 0), .val (.double x1), .second, .val (.double x2), .second, .val (.double x3), .second] [(.ref a)]) (fun _ k => XS.aloadN X0.here hx rfl (hb hby d4_0) rfl rfl k) ?_
  obtain ⟨T1, X1, e1, st1⟩ := getF X0 hx hZ hown (host := "") (Or.inl (own_g hw (i := 29) rfl)) Via.refl e0 P0 (g := (mkF m 1 #[rv a, .val (.int 0), .val (.double x1), .second, .val (.double x2), .second, .val (.double x3), .second] [(.ref a)])) rfl rfl (hb hby d4_1)
  refine own_S (mkF m 4 #[rv a, .val (.int 0), .val (.double x1), .second, .val (.double x2), .second, .val (.double x3), .second] [(.ref ng)]) st1 ?_
  refine own_S (mkF m 5 #[rv a, .val (.int 0), .val (.double x1), .second, .val (.double x2), .second, .val (.double x3), .second] [(.int 0), (.ref ng)]) (fun _ k => XS.iloadN X1.here hx rfl (hb hby d4_4) rfl k) ?_
  refine own_S (mkF m 6 #[rv a, .val (.int 0), .val (.double x1), .second, .val (.double x2), .second, .val (.double x3), .second] [(.double x1), (.int 0), (.ref ng)]) (fun _ k => XS.dloadN X1.here hx rfl (hb hby d4_5) rfl k) ?_
  obtain ⟨T2, h2, X2, e2, W2, AR2, st2⟩ := own_stD (j := (0 : Int32)) X1 hx hZ e1 P3 (by decide) (show (0 : Nat) < 2 from by decide) (g := (mkF m 6 #[rv a, .val (.int 0), .val (.double x1), .second, .val (.double x2), .second, .val (.double x3), .second] [(.double x1), (.int 0), (.ref ng)])) rfl rfl (hb hby d4_6)
  refine own_S (mkF m 7 #[rv a, .val (.int 0), .val (.double x1), .second, .val (.double x2), .second, .val (.double x3), .second] []) st2 ?_
  have F3 := P0.other W2 (Or.inl NE_a_ng)
  have F4 := P1.other W2 (Or.inl NE_a_ng)
  have F5 := P2.other W2 (Or.inl NE_a_ng)
  have F6 := P4.other W2 (Ne.symm NE_ng_ns)
  have F7 := P5.other W2 (Ne.symm NE_ng_nl)
  have F8 : own_Ar Z h2 ng k3 .double [(.double x1), v3] := AR2
  have N2 := Fr.snoc X2 N0 G_ng
  have Z2 : n0 ≤ h2.size := by rw [Wr.size W2]; exact Z0
  have K2 : Keep h0 h2 [ng, ns, nl] := (Keep.refl _ _).wr W2 (Or.inl (List.mem_of_getElem? (i := 0) rfl))
  refine own_S (mkF m 8 #[rv a, .val (.int 0), .val (.double x1), .second, .val (.double x2), .second, .val (.double x3), .second] [(.ref a)]) (fun _ k => XS.aloadN X2.here hx rfl (hb hby d4_7) rfl rfl k) ?_
  obtain ⟨T9, X9, e9, st9⟩ := getF X2 hx hZ hown (host := "") (Or.inl (own_g hw (i := 31) rfl)) Via.refl e2 F4 (g := (mkF m 8 #[rv a, .val (.int 0), .val (.double x1), .second, .val (.double x2), .second, .val (.double x3), .second] [(.ref a)])) rfl rfl (hb hby d4_8)
  refine own_S (mkF m 11 #[rv a, .val (.int 0), .val (.double x1), .second, .val (.double x2), .second, .val (.double x3), .second] [(.ref ns)]) st9 ?_
  refine own_S (mkF m 12 #[rv a, .val (.int 0), .val (.double x1), .second, .val (.double x2), .second, .val (.double x3), .second] [(.int 0), (.ref ns)]) (fun _ k => XS.iloadN X9.here hx rfl (hb hby d4_11) rfl k) ?_
  refine own_S (mkF m 14 #[rv a, .val (.int 0), .val (.double x1), .second, .val (.double x2), .second, .val (.double x3), .second] [(.double x2), (.int 0), (.ref ns)]) (fun _ k => XS.dload X9.here hx rfl (hb hby d4_12) rfl k) ?_
  obtain ⟨T10, h10, X10, e10, W10, AR10, st10⟩ := own_stD (j := (0 : Int32)) X9 hx hZ e9 F6 (by decide) (show (0 : Nat) < 2 from by decide) (g := (mkF m 14 #[rv a, .val (.int 0), .val (.double x1), .second, .val (.double x2), .second, .val (.double x3), .second] [(.double x2), (.int 0), (.ref ns)])) rfl rfl (hb hby d4_14)
  refine own_S (mkF m 15 #[rv a, .val (.int 0), .val (.double x1), .second, .val (.double x2), .second, .val (.double x3), .second] []) st10 ?_
  have F11 := F3.other W10 (Or.inl NE_a_ns)
  have F12 := F4.other W10 (Or.inl NE_a_ns)
  have F13 := F5.other W10 (Or.inl NE_a_ns)
  have F14 := F7.other W10 (Ne.symm NE_ns_nl)
  have F15 := F8.other W10 NE_ng_ns
  have F16 : own_Ar Z h10 ns k4 .double [(.double x2), v4] := AR10
  have N10 := Fr.snoc X10 N2 G_ns
  have Z10 : n0 ≤ h10.size := by rw [Wr.size W10]; exact Z2
  have K10 : Keep h0 h10 [ng, ns, nl] := K2.wr W10 (Or.inl (List.mem_of_getElem? (i := 1) rfl))
  refine own_S (mkF m 16 #[rv a, .val (.int 0), .val (.double x1), .second, .val (.double x2), .second, .val (.double x3), .second] [(.ref a)]) (fun _ k => XS.aloadN X10.here hx rfl (hb hby d4_15) rfl rfl k) ?_
  obtain ⟨T17, X17, e17, st17⟩ := getF X10 hx hZ hown (host := "") (Or.inl (own_g hw (i := 33) rfl)) Via.refl e10 F13 (g := (mkF m 16 #[rv a, .val (.int 0), .val (.double x1), .second, .val (.double x2), .second, .val (.double x3), .second] [(.ref a)])) rfl rfl (hb hby d4_16)
  refine own_S (mkF m 19 #[rv a, .val (.int 0), .val (.double x1), .second, .val (.double x2), .second, .val (.double x3), .second] [(.ref nl)]) st17 ?_
  refine own_S (mkF m 20 #[rv a, .val (.int 0), .val (.double x1), .second, .val (.double x2), .second, .val (.double x3), .second] [(.int 0), (.ref nl)]) (fun _ k => XS.iloadN X17.here hx rfl (hb hby d4_19) rfl k) ?_
  refine own_S (mkF m 22 #[rv a, .val (.int 0), .val (.double x1), .second, .val (.double x2), .second, .val (.double x3), .second] [(.double x3), (.int 0), (.ref nl)]) (fun _ k => XS.dload X17.here hx rfl (hb hby d4_20) rfl k) ?_
  obtain ⟨T18, h18, X18, e18, W18, AR18, st18⟩ := own_stD (j := (0 : Int32)) X17 hx hZ e17 F14 (by decide) (show (0 : Nat) < 2 from by decide) (g := (mkF m 22 #[rv a, .val (.int 0), .val (.double x1), .second, .val (.double x2), .second, .val (.double x3), .second] [(.double x3), (.int 0), (.ref nl)])) rfl rfl (hb hby d4_22)
  refine own_S (mkF m 23 #[rv a, .val (.int 0), .val (.double x1), .second, .val (.double x2), .second, .val (.double x3), .second] []) st18 ?_
  have F19 := F11.other W18 (Or.inl NE_a_nl)
  have F20 := F12.other W18 (Or.inl NE_a_nl)
  have F21 := F13.other W18 (Or.inl NE_a_nl)
  have F22 := F15.other W18 NE_ng_nl
  have F23 := F16.other W18 NE_ns_nl
  have F24 : own_Ar Z h18 nl k5 .double [(.double x3), v5] := AR18
  have N18 := Fr.snoc X18 N10 G_nl
  have Z18 : n0 ≤ h18.size := by rw [Wr.size W18]; exact Z10
  have K18 : Keep h0 h18 [ng, ns, nl] := K10.wr W18 (Or.inl (List.mem_of_getElem? (i := 2) rfl))
  exact own_ret0 X18 hx hlk hret (hb hby d4_23) (by rw [e18]; exact ⟨rfl, N18, K18, F22, F23, F24⟩) (by decide) (by decide)
theorem d6_0 : decode method_3_code 0 = .ok (.aload_n 0, 1) := by decide +kernel
theorem d6_1 : decode method_3_code 1 = .ok (.getfield 25, 3) := by decide +kernel
theorem d6_4 : decode method_3_code 4 = .ok (.iload_n 1, 1) := by decide +kernel
theorem d6_5 : decode method_3_code 5 = .ok (.daload, 1) := by decide +kernel
theorem d6_6 : decode method_3_code 6 = .ok (.dload_n 2, 1) := by decide +kernel
theorem d6_7 : decode method_3_code 7 = .ok (.dcmp .l, 1) := by decide +kernel
theorem d6_8 : decode method_3_code 8 = .ok (.ifCond .ne 31, 3) := by decide +kernel
theorem d6_11 : decode method_3_code 11 = .ok (.aload_n 0, 1) := by decide +kernel
theorem d6_12 : decode method_3_code 12 = .ok (.getfield 29, 3) := by decide +kernel
theorem d6_15 : decode method_3_code 15 = .ok (.iload_n 1, 1) := by decide +kernel
theorem d6_16 : decode method_3_code 16 = .ok (.daload, 1) := by decide +kernel
theorem d6_17 : decode method_3_code 17 = .ok (.dload 4, 2) := by decide +kernel
theorem d6_19 : decode method_3_code 19 = .ok (.dcmp .l, 1) := by decide +kernel
theorem d6_20 : decode method_3_code 20 = .ok (.ifCond .ne 19, 3) := by decide +kernel
theorem d6_23 : decode method_3_code 23 = .ok (.aload_n 0, 1) := by decide +kernel
theorem d6_24 : decode method_3_code 24 = .ok (.getfield 32, 3) := by decide +kernel
theorem d6_27 : decode method_3_code 27 = .ok (.iload_n 1, 1) := by decide +kernel
theorem d6_28 : decode method_3_code 28 = .ok (.daload, 1) := by decide +kernel
theorem d6_29 : decode method_3_code 29 = .ok (.dload 6, 2) := by decide +kernel
theorem d6_31 : decode method_3_code 31 = .ok (.dcmp .l, 1) := by decide +kernel
theorem d6_32 : decode method_3_code 32 = .ok (.ifCond .ne 7, 3) := by decide +kernel
theorem d6_35 : decode method_3_code 35 = .ok (.iconst 1, 1) := by decide +kernel
theorem d6_36 : decode method_3_code 36 = .ok (.goto 4, 3) := by decide +kernel
theorem d6_40 : decode method_3_code 40 = .ok (.ireturn, 1) := by decide +kernel
theorem own_pf_is0 : plainFor own_y3 = true := by first | exact plainFor_of_name (show plainName "com/example/accrue/accrue/exact/PathsAdvancePinLaw" = true by first | (simp [plainName, overriddenIn]; done) | decide +kernel) | decide +kernel
theorem own_ef_is0 (m : MethodId) (y0 : Addr) (y1 : Int32) (y2 : UInt64) (y3 : UInt64) (y4 : UInt64) : entryFrame m #[(.ref y0), (.int y1), (.double y2), (.double y3), (.double y4)] 8 = mkF m 0 #[rv y0, iv y1, .val (.double y2), .second, .val (.double y3), .second, .val (.double y4), .second] [] := by first | (simp [entryFrame, mkF, argsToLocals, Value.category]; done) | rfl
def own_Qis0 (Z : State) (a : Addr) (ga : Addr) (sa : Addr) (la : Addr) (k0 : ClassId) (k1 : ClassId) (k2 : ClassId) (x1 : UInt64) (x2 : UInt64) (x3 : UInt64) (v0 : Value) (v1 : Value) (v2 : Value) (h0 : Heap) (n0 : Nat) (v : Option Value) (h : Heap) (L : List Loc) : Prop := v = some (.int (1 : Int32)) ∧ Fr n0 L ∧ h = h0
set_option maxRecDepth 65536 in
set_option maxHeartbeats 40000000 in
theorem own_rmis0 (l : Launch) (Z : State) (a0 : Array Value) (hw : ∀ d ∈ tables_1, d.before a0 Z = true) (ws : List Jvm.Cond) (a : Addr) (ga : Addr) (sa : Addr) (la : Addr) (k0 : ClassId) (k1 : ClassId) (k2 : ClassId) (x1 : UInt64) (x2 : UInt64) (x3 : UInt64) (v0 : Value) (v1 : Value) (v2 : Value) (h0 : Heap) (n0 : Nat) (Z0 : n0 ≤ h0.size) (P0 : Fld Z h0 a "com/example/accrue/accrue/exact/Paths" "gathered" "[D" (.ref ga)) (P1 : Fld Z h0 a "com/example/accrue/accrue/exact/Paths" "staying" "[D" (.ref sa)) (P2 : Fld Z h0 a "com/example/accrue/accrue/exact/Paths" "leaving" "[D" (.ref la)) (P3 : own_Ar Z h0 ga k0 .double [(.double x1), v0]) (P4 : own_Ar Z h0 sa k1 .double [(.double x2), v1]) (P5 : own_Ar Z h0 la k2 .double [(.double x3), v2]) (n1 : NoNaN64 x1) (n2 : NoNaN64 x2) (n3 : NoNaN64 x3) :
    MetFree l own_y3 (head1 (Jvm.Cond.code own_y3 method_3_code 8 (some .boolean) :: ws) ({ frames := 0, cells := 0, slots := 0, locals := 0 } : Room)) (fun az Uz => az = #[(.ref a), (.int 0), (.double x1), (.double x2), (.double x3)] ∧ Z.Warmed39 Uz.vm ∧ Uz.heap = h0) (fun _ _ _ _ _ => True) (fun _ U o U' => ∃ v L, o = .returned v ∧ own_Qis0 Z a ga sa la k0 k1 k2 x1 x2 x3 v0 v1 v2 h0 n0 v U'.heap L ∧ FrameEnd U o U' L ({ frames := 0, cells := 0, slots := 0, locals := 0 } : Room).cells ({ frames := 0, cells := 0, slots := 0, locals := 0 } : Room).slots) := by
  refine MetFree.of_bodySF own_pf_is0 hisR ?_
  intro p e s m args below meth c s₁ Bd hml0 hP hK
  obtain ⟨rfl, hZ, hh⟩ := hP
  have hx := Bd.exec
  have hby := Bd.bytes
  have hml : c.maxLocals = 8 := hml0
  have hown : s.vm.findClass "com/example/accrue/accrue/exact/PathsAdvancePinLaw" = some m.cls := findClass_of_methodNamed Bd.named
  have hnm := (name_of_methodNamed Bd.named Bd.method).1
  have hlk : meth.locks = false := BodyLoose.notSynchronized Bd
  have hret := Bd.returns
  have X0 : Stand p l e ({ frames := 0, cells := 0, slots := 0, locals := 0 } : Room) s m #[(.ref a), (.int 0), (.double x1), (.double x2), (.double x3)] below meth c s₁ [] 0 0 := Stand.of_body Bd
  have e0 : s₁.heap = h0 := by rw [← hh, Bd.state]; rfl
  have N0 := Fr.nil n0
  show own_E p e below (own_K s (own_Qis0 Z a ga sa la k0 k1 k2 x1 x2 x3 v0 v1 v2 h0 n0) ({ frames := 0, cells := 0, slots := 0, locals := 0 } : Room).cells ({ frames := 0, cells := 0, slots := 0, locals := 0 } : Room).slots) s₁ (entryFrame m #[(.ref a), (.int 0), (.double x1), (.double x2), (.double x3)] 8)
  refine own_S (mkF m 0 #[rv a, .val (.int 0), .val (.double x1), .second, .val (.double x2), .second, .val (.double x3), .second] []) (fun _ k => castTop (own_ef_is0 m (a) ((0 : Int32)) (x1) (x2) (x3)) k) ?_
  refine own_S (mkF m 1 #[rv a, .val (.int 0), .val (.double x1), .second, .val (.double x2), .second, .val (.double x3), .second] [(.ref a)]) (fun _ k => XS.aloadN X0.here hx rfl (hb hby d6_0) rfl rfl k) ?_
  obtain ⟨T1, X1, e1, st1⟩ := getF X0 hx hZ hown (host := "") (Or.inl (own_g hw (i := 49) rfl)) Via.refl e0 P0 (g := (mkF m 1 #[rv a, .val (.int 0), .val (.double x1), .second, .val (.double x2), .second, .val (.double x3), .second] [(.ref a)])) rfl rfl (hb hby d6_1)
  refine own_S (mkF m 4 #[rv a, .val (.int 0), .val (.double x1), .second, .val (.double x2), .second, .val (.double x3), .second] [(.ref ga)]) st1 ?_
  refine own_S (mkF m 5 #[rv a, .val (.int 0), .val (.double x1), .second, .val (.double x2), .second, .val (.double x3), .second] [(.int 0), (.ref ga)]) (fun _ k => XS.iloadN X1.here hx rfl (hb hby d6_4) rfl k) ?_
  refine own_S (mkF m 6 #[rv a, .val (.int 0), .val (.double x1), .second, .val (.double x2), .second, .val (.double x3), .second] [(.double x1)]) (fun _ k => own_ldD X1 hx hZ e1 P3 (by decide) rfl (g := (mkF m 5 #[rv a, .val (.int 0), .val (.double x1), .second, .val (.double x2), .second, .val (.double x3), .second] [(.int 0), (.ref ga)])) rfl rfl (hb hby d6_5) _ k) ?_
  refine own_S (mkF m 7 #[rv a, .val (.int 0), .val (.double x1), .second, .val (.double x2), .second, .val (.double x3), .second] [(.double x1), (.double x1)]) (fun _ k => XS.dloadN X1.here hx rfl (hb hby d6_6) rfl k) ?_
  refine own_S (mkF m 8 #[rv a, .val (.int 0), .val (.double x1), .second, .val (.double x2), .second, .val (.double x3), .second] [(.int 0)]) (fun _ k => XS.dcmpS X1.here hx rfl (hb hby d6_7) rfl (dcmpV_self n1 _) k) ?_
  have hc2 : (0 : Int32) = (0 : Int32) := by decide
  refine own_S (mkF m 11 #[rv a, .val (.int 0), .val (.double x1), .second, .val (.double x2), .second, .val (.double x3), .second] []) (fun _ k => XS.ifNo X1.here hx rfl (hb hby d6_8) rfl ((if0 _ _).trans (teq hc2).2) k) ?_
  refine own_S (mkF m 12 #[rv a, .val (.int 0), .val (.double x1), .second, .val (.double x2), .second, .val (.double x3), .second] [(.ref a)]) (fun _ k => XS.aloadN X1.here hx rfl (hb hby d6_11) rfl rfl k) ?_
  obtain ⟨T3, X3, e3, st3⟩ := getF X1 hx hZ hown (host := "") (Or.inl (own_g hw (i := 50) rfl)) Via.refl e1 P1 (g := (mkF m 12 #[rv a, .val (.int 0), .val (.double x1), .second, .val (.double x2), .second, .val (.double x3), .second] [(.ref a)])) rfl rfl (hb hby d6_12)
  refine own_S (mkF m 15 #[rv a, .val (.int 0), .val (.double x1), .second, .val (.double x2), .second, .val (.double x3), .second] [(.ref sa)]) st3 ?_
  refine own_S (mkF m 16 #[rv a, .val (.int 0), .val (.double x1), .second, .val (.double x2), .second, .val (.double x3), .second] [(.int 0), (.ref sa)]) (fun _ k => XS.iloadN X3.here hx rfl (hb hby d6_15) rfl k) ?_
  refine own_S (mkF m 17 #[rv a, .val (.int 0), .val (.double x1), .second, .val (.double x2), .second, .val (.double x3), .second] [(.double x2)]) (fun _ k => own_ldD X3 hx hZ e3 P4 (by decide) rfl (g := (mkF m 16 #[rv a, .val (.int 0), .val (.double x1), .second, .val (.double x2), .second, .val (.double x3), .second] [(.int 0), (.ref sa)])) rfl rfl (hb hby d6_16) _ k) ?_
  refine own_S (mkF m 19 #[rv a, .val (.int 0), .val (.double x1), .second, .val (.double x2), .second, .val (.double x3), .second] [(.double x2), (.double x2)]) (fun _ k => XS.dload X3.here hx rfl (hb hby d6_17) rfl k) ?_
  refine own_S (mkF m 20 #[rv a, .val (.int 0), .val (.double x1), .second, .val (.double x2), .second, .val (.double x3), .second] [(.int 0)]) (fun _ k => XS.dcmpS X3.here hx rfl (hb hby d6_19) rfl (dcmpV_self n2 _) k) ?_
  have hc4 : (0 : Int32) = (0 : Int32) := by decide
  refine own_S (mkF m 23 #[rv a, .val (.int 0), .val (.double x1), .second, .val (.double x2), .second, .val (.double x3), .second] []) (fun _ k => XS.ifNo X3.here hx rfl (hb hby d6_20) rfl ((if0 _ _).trans (teq hc4).2) k) ?_
  refine own_S (mkF m 24 #[rv a, .val (.int 0), .val (.double x1), .second, .val (.double x2), .second, .val (.double x3), .second] [(.ref a)]) (fun _ k => XS.aloadN X3.here hx rfl (hb hby d6_23) rfl rfl k) ?_
  obtain ⟨T5, X5, e5, st5⟩ := getF X3 hx hZ hown (host := "") (Or.inl (own_g hw (i := 51) rfl)) Via.refl e3 P2 (g := (mkF m 24 #[rv a, .val (.int 0), .val (.double x1), .second, .val (.double x2), .second, .val (.double x3), .second] [(.ref a)])) rfl rfl (hb hby d6_24)
  refine own_S (mkF m 27 #[rv a, .val (.int 0), .val (.double x1), .second, .val (.double x2), .second, .val (.double x3), .second] [(.ref la)]) st5 ?_
  refine own_S (mkF m 28 #[rv a, .val (.int 0), .val (.double x1), .second, .val (.double x2), .second, .val (.double x3), .second] [(.int 0), (.ref la)]) (fun _ k => XS.iloadN X5.here hx rfl (hb hby d6_27) rfl k) ?_
  refine own_S (mkF m 29 #[rv a, .val (.int 0), .val (.double x1), .second, .val (.double x2), .second, .val (.double x3), .second] [(.double x3)]) (fun _ k => own_ldD X5 hx hZ e5 P5 (by decide) rfl (g := (mkF m 28 #[rv a, .val (.int 0), .val (.double x1), .second, .val (.double x2), .second, .val (.double x3), .second] [(.int 0), (.ref la)])) rfl rfl (hb hby d6_28) _ k) ?_
  refine own_S (mkF m 31 #[rv a, .val (.int 0), .val (.double x1), .second, .val (.double x2), .second, .val (.double x3), .second] [(.double x3), (.double x3)]) (fun _ k => XS.dload X5.here hx rfl (hb hby d6_29) rfl k) ?_
  refine own_S (mkF m 32 #[rv a, .val (.int 0), .val (.double x1), .second, .val (.double x2), .second, .val (.double x3), .second] [(.int 0)]) (fun _ k => XS.dcmpS X5.here hx rfl (hb hby d6_31) rfl (dcmpV_self n3 _) k) ?_
  have hc6 : (0 : Int32) = (0 : Int32) := by decide
  refine own_S (mkF m 35 #[rv a, .val (.int 0), .val (.double x1), .second, .val (.double x2), .second, .val (.double x3), .second] []) (fun _ k => XS.ifNo X5.here hx rfl (hb hby d6_32) rfl ((if0 _ _).trans (teq hc6).2) k) ?_
  refine own_S (mkF m 36 #[rv a, .val (.int 0), .val (.double x1), .second, .val (.double x2), .second, .val (.double x3), .second] [(.int 1)]) (fun _ k => XS.iconst X5.here hx rfl (hb hby d6_35) k) ?_
  refine own_S (mkF m 40 #[rv a, .val (.int 0), .val (.double x1), .second, .val (.double x2), .second, .val (.double x3), .second] [(.int 1)]) (fun _ k => XS.goto X5.here hx rfl (pc0 := 36) (pc' := 40) rfl (hb hby d6_36) (by decide) (by decide) k) ?_
  exact own_retN X5 hx hlk (t := .boolean) hret (by simp) (hb hby d6_40) (by rw [e5]; exact ⟨rfl, N0, rfl⟩) (by decide) (by decide)
theorem own_pf_sn1 : plainFor own_y2 = true := by first | exact plainFor_of_name (show plainName "com/example/accrue/accrue/exact/Paths" = true by first | (simp [plainName, overriddenIn]; done) | decide +kernel) | decide +kernel
theorem own_ef_sn1 (m : MethodId) (y0 : Addr) (y1 : Int32) (y2 : UInt64) (y3 : UInt64) (y4 : UInt64) : entryFrame m #[(.ref y0), (.int y1), (.double y2), (.double y3), (.double y4)] 8 = mkF m 0 #[rv y0, iv y1, .val (.double y2), .second, .val (.double y3), .second, .val (.double y4), .second] [] := by first | (simp [entryFrame, mkF, argsToLocals, Value.category]; done) | rfl
def own_Qsn1 (Z : State) (a : Addr) (ng : Addr) (ns : Addr) (nl : Addr) (k3 : ClassId) (k4 : ClassId) (k5 : ClassId) (x1 : UInt64) (x2 : UInt64) (x3 : UInt64) (u3 : Value) (u4 : Value) (u5 : Value) (v3 : Value) (v4 : Value) (v5 : Value) (h0 : Heap) (n0 : Nat) (v : Option Value) (h : Heap) (L : List Loc) : Prop := v = none ∧ Fr n0 L ∧ Keep h0 h [ng, ns, nl] ∧ own_Ar Z h ng k3 .double [v3, (.double x1)] ∧ own_Ar Z h ns k4 .double [v4, (.double x2)] ∧ own_Ar Z h nl k5 .double [v5, (.double x3)]
set_option maxRecDepth 65536 in
set_option maxHeartbeats 40000000 in
theorem own_rmsn1 (l : Launch) (Z : State) (a0 : Array Value) (hw : ∀ d ∈ tables_1, d.before a0 Z = true) (ws : List Jvm.Cond) (a : Addr) (ng : Addr) (ns : Addr) (nl : Addr) (k3 : ClassId) (k4 : ClassId) (k5 : ClassId) (x1 : UInt64) (x2 : UInt64) (x3 : UInt64) (u3 : Value) (u4 : Value) (u5 : Value) (v3 : Value) (v4 : Value) (v5 : Value) (h0 : Heap) (n0 : Nat) (Z0 : n0 ≤ h0.size) (P0 : Fld Z h0 a "com/example/accrue/accrue/exact/Paths" "nextGathered" "[D" (.ref ng)) (P1 : Fld Z h0 a "com/example/accrue/accrue/exact/Paths" "nextStaying" "[D" (.ref ns)) (P2 : Fld Z h0 a "com/example/accrue/accrue/exact/Paths" "nextLeaving" "[D" (.ref nl)) (P3 : own_Ar Z h0 ng k3 .double [v3, u3]) (P4 : own_Ar Z h0 ns k4 .double [v4, u4]) (P5 : own_Ar Z h0 nl k5 .double [v5, u5]) (G_ng : n0 ≤ ng) (G_ns : n0 ≤ ns) (G_nl : n0 ≤ nl) (NE_a_ng : a ≠ ng) (NE_a_ns : a ≠ ns) (NE_a_nl : a ≠ nl) (NE_ng_ns : ng ≠ ns) (NE_ng_nl : ng ≠ nl) (NE_ns_nl : ns ≠ nl) :
    MetFree l own_y2 (head1 (Jvm.Cond.code own_y2 prog_28_method_5_code 8 none :: ws) ({ frames := 0, cells := 0, slots := 0, locals := 0 } : Room)) (fun az Uz => az = #[(.ref a), (.int 1), (.double x1), (.double x2), (.double x3)] ∧ Z.Warmed39 Uz.vm ∧ Uz.heap = h0) (fun _ _ _ _ _ => True) (fun _ U o U' => ∃ v L, o = .returned v ∧ own_Qsn1 Z a ng ns nl k3 k4 k5 x1 x2 x3 u3 u4 u5 v3 v4 v5 h0 n0 v U'.heap L ∧ FrameEnd U o U' L ({ frames := 0, cells := 0, slots := 0, locals := 0 } : Room).cells ({ frames := 0, cells := 0, slots := 0, locals := 0 } : Room).slots) := by
  refine MetFree.of_bodySF own_pf_sn1 hisR ?_
  intro p e s m args below meth c s₁ Bd hml0 hP hK
  obtain ⟨rfl, hZ, hh⟩ := hP
  have hx := Bd.exec
  have hby := Bd.bytes
  have hml : c.maxLocals = 8 := hml0
  have hown : s.vm.findClass "com/example/accrue/accrue/exact/Paths" = some m.cls := findClass_of_methodNamed Bd.named
  have hnm := (name_of_methodNamed Bd.named Bd.method).1
  have hlk : meth.locks = false := BodyLoose.notSynchronized Bd
  have hret := Bd.returns
  have X0 : Stand p l e ({ frames := 0, cells := 0, slots := 0, locals := 0 } : Room) s m #[(.ref a), (.int 1), (.double x1), (.double x2), (.double x3)] below meth c s₁ [] 0 0 := Stand.of_body Bd
  have e0 : s₁.heap = h0 := by rw [← hh, Bd.state]; rfl
  have N0 := Fr.nil n0
  show own_E p e below (own_K s (own_Qsn1 Z a ng ns nl k3 k4 k5 x1 x2 x3 u3 u4 u5 v3 v4 v5 h0 n0) ({ frames := 0, cells := 0, slots := 0, locals := 0 } : Room).cells ({ frames := 0, cells := 0, slots := 0, locals := 0 } : Room).slots) s₁ (entryFrame m #[(.ref a), (.int 1), (.double x1), (.double x2), (.double x3)] 8)
  refine own_S (mkF m 0 #[rv a, .val (.int 1), .val (.double x1), .second, .val (.double x2), .second, .val (.double x3), .second] []) (fun _ k => castTop (own_ef_sn1 m (a) ((1 : Int32)) (x1) (x2) (x3)) k) ?_
  refine own_S (mkF m 1 #[rv a, .val (.int 1), .val (.double x1), .second, .val (.double x2), .second, .val (.double x3), .second] [(.ref a)]) (fun _ k => XS.aloadN X0.here hx rfl (hb hby d4_0) rfl rfl k) ?_
  obtain ⟨T1, X1, e1, st1⟩ := getF X0 hx hZ hown (host := "") (Or.inl (own_g hw (i := 29) rfl)) Via.refl e0 P0 (g := (mkF m 1 #[rv a, .val (.int 1), .val (.double x1), .second, .val (.double x2), .second, .val (.double x3), .second] [(.ref a)])) rfl rfl (hb hby d4_1)
  refine own_S (mkF m 4 #[rv a, .val (.int 1), .val (.double x1), .second, .val (.double x2), .second, .val (.double x3), .second] [(.ref ng)]) st1 ?_
  refine own_S (mkF m 5 #[rv a, .val (.int 1), .val (.double x1), .second, .val (.double x2), .second, .val (.double x3), .second] [(.int 1), (.ref ng)]) (fun _ k => XS.iloadN X1.here hx rfl (hb hby d4_4) rfl k) ?_
  refine own_S (mkF m 6 #[rv a, .val (.int 1), .val (.double x1), .second, .val (.double x2), .second, .val (.double x3), .second] [(.double x1), (.int 1), (.ref ng)]) (fun _ k => XS.dloadN X1.here hx rfl (hb hby d4_5) rfl k) ?_
  obtain ⟨T2, h2, X2, e2, W2, AR2, st2⟩ := own_stD (j := (1 : Int32)) X1 hx hZ e1 P3 (by decide) (show (1 : Nat) < 2 from by decide) (g := (mkF m 6 #[rv a, .val (.int 1), .val (.double x1), .second, .val (.double x2), .second, .val (.double x3), .second] [(.double x1), (.int 1), (.ref ng)])) rfl rfl (hb hby d4_6)
  refine own_S (mkF m 7 #[rv a, .val (.int 1), .val (.double x1), .second, .val (.double x2), .second, .val (.double x3), .second] []) st2 ?_
  have F3 := P0.other W2 (Or.inl NE_a_ng)
  have F4 := P1.other W2 (Or.inl NE_a_ng)
  have F5 := P2.other W2 (Or.inl NE_a_ng)
  have F6 := P4.other W2 (Ne.symm NE_ng_ns)
  have F7 := P5.other W2 (Ne.symm NE_ng_nl)
  have F8 : own_Ar Z h2 ng k3 .double [v3, (.double x1)] := AR2
  have N2 := Fr.snoc X2 N0 G_ng
  have Z2 : n0 ≤ h2.size := by rw [Wr.size W2]; exact Z0
  have K2 : Keep h0 h2 [ng, ns, nl] := (Keep.refl _ _).wr W2 (Or.inl (List.mem_of_getElem? (i := 0) rfl))
  refine own_S (mkF m 8 #[rv a, .val (.int 1), .val (.double x1), .second, .val (.double x2), .second, .val (.double x3), .second] [(.ref a)]) (fun _ k => XS.aloadN X2.here hx rfl (hb hby d4_7) rfl rfl k) ?_
  obtain ⟨T9, X9, e9, st9⟩ := getF X2 hx hZ hown (host := "") (Or.inl (own_g hw (i := 31) rfl)) Via.refl e2 F4 (g := (mkF m 8 #[rv a, .val (.int 1), .val (.double x1), .second, .val (.double x2), .second, .val (.double x3), .second] [(.ref a)])) rfl rfl (hb hby d4_8)
  refine own_S (mkF m 11 #[rv a, .val (.int 1), .val (.double x1), .second, .val (.double x2), .second, .val (.double x3), .second] [(.ref ns)]) st9 ?_
  refine own_S (mkF m 12 #[rv a, .val (.int 1), .val (.double x1), .second, .val (.double x2), .second, .val (.double x3), .second] [(.int 1), (.ref ns)]) (fun _ k => XS.iloadN X9.here hx rfl (hb hby d4_11) rfl k) ?_
  refine own_S (mkF m 14 #[rv a, .val (.int 1), .val (.double x1), .second, .val (.double x2), .second, .val (.double x3), .second] [(.double x2), (.int 1), (.ref ns)]) (fun _ k => XS.dload X9.here hx rfl (hb hby d4_12) rfl k) ?_
  obtain ⟨T10, h10, X10, e10, W10, AR10, st10⟩ := own_stD (j := (1 : Int32)) X9 hx hZ e9 F6 (by decide) (show (1 : Nat) < 2 from by decide) (g := (mkF m 14 #[rv a, .val (.int 1), .val (.double x1), .second, .val (.double x2), .second, .val (.double x3), .second] [(.double x2), (.int 1), (.ref ns)])) rfl rfl (hb hby d4_14)
  refine own_S (mkF m 15 #[rv a, .val (.int 1), .val (.double x1), .second, .val (.double x2), .second, .val (.double x3), .second] []) st10 ?_
  have F11 := F3.other W10 (Or.inl NE_a_ns)
  have F12 := F4.other W10 (Or.inl NE_a_ns)
  have F13 := F5.other W10 (Or.inl NE_a_ns)
  have F14 := F7.other W10 (Ne.symm NE_ns_nl)
  have F15 := F8.other W10 NE_ng_ns
  have F16 : own_Ar Z h10 ns k4 .double [v4, (.double x2)] := AR10
  have N10 := Fr.snoc X10 N2 G_ns
  have Z10 : n0 ≤ h10.size := by rw [Wr.size W10]; exact Z2
  have K10 : Keep h0 h10 [ng, ns, nl] := K2.wr W10 (Or.inl (List.mem_of_getElem? (i := 1) rfl))
  refine own_S (mkF m 16 #[rv a, .val (.int 1), .val (.double x1), .second, .val (.double x2), .second, .val (.double x3), .second] [(.ref a)]) (fun _ k => XS.aloadN X10.here hx rfl (hb hby d4_15) rfl rfl k) ?_
  obtain ⟨T17, X17, e17, st17⟩ := getF X10 hx hZ hown (host := "") (Or.inl (own_g hw (i := 33) rfl)) Via.refl e10 F13 (g := (mkF m 16 #[rv a, .val (.int 1), .val (.double x1), .second, .val (.double x2), .second, .val (.double x3), .second] [(.ref a)])) rfl rfl (hb hby d4_16)
  refine own_S (mkF m 19 #[rv a, .val (.int 1), .val (.double x1), .second, .val (.double x2), .second, .val (.double x3), .second] [(.ref nl)]) st17 ?_
  refine own_S (mkF m 20 #[rv a, .val (.int 1), .val (.double x1), .second, .val (.double x2), .second, .val (.double x3), .second] [(.int 1), (.ref nl)]) (fun _ k => XS.iloadN X17.here hx rfl (hb hby d4_19) rfl k) ?_
  refine own_S (mkF m 22 #[rv a, .val (.int 1), .val (.double x1), .second, .val (.double x2), .second, .val (.double x3), .second] [(.double x3), (.int 1), (.ref nl)]) (fun _ k => XS.dload X17.here hx rfl (hb hby d4_20) rfl k) ?_
  obtain ⟨T18, h18, X18, e18, W18, AR18, st18⟩ := own_stD (j := (1 : Int32)) X17 hx hZ e17 F14 (by decide) (show (1 : Nat) < 2 from by decide) (g := (mkF m 22 #[rv a, .val (.int 1), .val (.double x1), .second, .val (.double x2), .second, .val (.double x3), .second] [(.double x3), (.int 1), (.ref nl)])) rfl rfl (hb hby d4_22)
  refine own_S (mkF m 23 #[rv a, .val (.int 1), .val (.double x1), .second, .val (.double x2), .second, .val (.double x3), .second] []) st18 ?_
  have F19 := F11.other W18 (Or.inl NE_a_nl)
  have F20 := F12.other W18 (Or.inl NE_a_nl)
  have F21 := F13.other W18 (Or.inl NE_a_nl)
  have F22 := F15.other W18 NE_ng_nl
  have F23 := F16.other W18 NE_ns_nl
  have F24 : own_Ar Z h18 nl k5 .double [v5, (.double x3)] := AR18
  have N18 := Fr.snoc X18 N10 G_nl
  have Z18 : n0 ≤ h18.size := by rw [Wr.size W18]; exact Z10
  have K18 : Keep h0 h18 [ng, ns, nl] := K10.wr W18 (Or.inl (List.mem_of_getElem? (i := 2) rfl))
  exact own_ret0 X18 hx hlk hret (hb hby d4_23) (by rw [e18]; exact ⟨rfl, N18, K18, F22, F23, F24⟩) (by decide) (by decide)
theorem own_pf_is1 : plainFor own_y3 = true := by first | exact plainFor_of_name (show plainName "com/example/accrue/accrue/exact/PathsAdvancePinLaw" = true by first | (simp [plainName, overriddenIn]; done) | decide +kernel) | decide +kernel
theorem own_ef_is1 (m : MethodId) (y0 : Addr) (y1 : Int32) (y2 : UInt64) (y3 : UInt64) (y4 : UInt64) : entryFrame m #[(.ref y0), (.int y1), (.double y2), (.double y3), (.double y4)] 8 = mkF m 0 #[rv y0, iv y1, .val (.double y2), .second, .val (.double y3), .second, .val (.double y4), .second] [] := by first | (simp [entryFrame, mkF, argsToLocals, Value.category]; done) | rfl
def own_Qis1 (Z : State) (a : Addr) (ga : Addr) (sa : Addr) (la : Addr) (k0 : ClassId) (k1 : ClassId) (k2 : ClassId) (x1 : UInt64) (x2 : UInt64) (x3 : UInt64) (v0 : Value) (v1 : Value) (v2 : Value) (h0 : Heap) (n0 : Nat) (v : Option Value) (h : Heap) (L : List Loc) : Prop := v = some (.int (1 : Int32)) ∧ Fr n0 L ∧ h = h0
set_option maxRecDepth 65536 in
set_option maxHeartbeats 40000000 in
theorem own_rmis1 (l : Launch) (Z : State) (a0 : Array Value) (hw : ∀ d ∈ tables_1, d.before a0 Z = true) (ws : List Jvm.Cond) (a : Addr) (ga : Addr) (sa : Addr) (la : Addr) (k0 : ClassId) (k1 : ClassId) (k2 : ClassId) (x1 : UInt64) (x2 : UInt64) (x3 : UInt64) (v0 : Value) (v1 : Value) (v2 : Value) (h0 : Heap) (n0 : Nat) (Z0 : n0 ≤ h0.size) (P0 : Fld Z h0 a "com/example/accrue/accrue/exact/Paths" "gathered" "[D" (.ref ga)) (P1 : Fld Z h0 a "com/example/accrue/accrue/exact/Paths" "staying" "[D" (.ref sa)) (P2 : Fld Z h0 a "com/example/accrue/accrue/exact/Paths" "leaving" "[D" (.ref la)) (P3 : own_Ar Z h0 ga k0 .double [v0, (.double x1)]) (P4 : own_Ar Z h0 sa k1 .double [v1, (.double x2)]) (P5 : own_Ar Z h0 la k2 .double [v2, (.double x3)]) (n1 : NoNaN64 x1) (n2 : NoNaN64 x2) (n3 : NoNaN64 x3) :
    MetFree l own_y3 (head1 (Jvm.Cond.code own_y3 method_3_code 8 (some .boolean) :: ws) ({ frames := 0, cells := 0, slots := 0, locals := 0 } : Room)) (fun az Uz => az = #[(.ref a), (.int 1), (.double x1), (.double x2), (.double x3)] ∧ Z.Warmed39 Uz.vm ∧ Uz.heap = h0) (fun _ _ _ _ _ => True) (fun _ U o U' => ∃ v L, o = .returned v ∧ own_Qis1 Z a ga sa la k0 k1 k2 x1 x2 x3 v0 v1 v2 h0 n0 v U'.heap L ∧ FrameEnd U o U' L ({ frames := 0, cells := 0, slots := 0, locals := 0 } : Room).cells ({ frames := 0, cells := 0, slots := 0, locals := 0 } : Room).slots) := by
  refine MetFree.of_bodySF own_pf_is1 hisR ?_
  intro p e s m args below meth c s₁ Bd hml0 hP hK
  obtain ⟨rfl, hZ, hh⟩ := hP
  have hx := Bd.exec
  have hby := Bd.bytes
  have hml : c.maxLocals = 8 := hml0
  have hown : s.vm.findClass "com/example/accrue/accrue/exact/PathsAdvancePinLaw" = some m.cls := findClass_of_methodNamed Bd.named
  have hnm := (name_of_methodNamed Bd.named Bd.method).1
  have hlk : meth.locks = false := BodyLoose.notSynchronized Bd
  have hret := Bd.returns
  have X0 : Stand p l e ({ frames := 0, cells := 0, slots := 0, locals := 0 } : Room) s m #[(.ref a), (.int 1), (.double x1), (.double x2), (.double x3)] below meth c s₁ [] 0 0 := Stand.of_body Bd
  have e0 : s₁.heap = h0 := by rw [← hh, Bd.state]; rfl
  have N0 := Fr.nil n0
  show own_E p e below (own_K s (own_Qis1 Z a ga sa la k0 k1 k2 x1 x2 x3 v0 v1 v2 h0 n0) ({ frames := 0, cells := 0, slots := 0, locals := 0 } : Room).cells ({ frames := 0, cells := 0, slots := 0, locals := 0 } : Room).slots) s₁ (entryFrame m #[(.ref a), (.int 1), (.double x1), (.double x2), (.double x3)] 8)
  refine own_S (mkF m 0 #[rv a, .val (.int 1), .val (.double x1), .second, .val (.double x2), .second, .val (.double x3), .second] []) (fun _ k => castTop (own_ef_is1 m (a) ((1 : Int32)) (x1) (x2) (x3)) k) ?_
  refine own_S (mkF m 1 #[rv a, .val (.int 1), .val (.double x1), .second, .val (.double x2), .second, .val (.double x3), .second] [(.ref a)]) (fun _ k => XS.aloadN X0.here hx rfl (hb hby d6_0) rfl rfl k) ?_
  obtain ⟨T1, X1, e1, st1⟩ := getF X0 hx hZ hown (host := "") (Or.inl (own_g hw (i := 49) rfl)) Via.refl e0 P0 (g := (mkF m 1 #[rv a, .val (.int 1), .val (.double x1), .second, .val (.double x2), .second, .val (.double x3), .second] [(.ref a)])) rfl rfl (hb hby d6_1)
  refine own_S (mkF m 4 #[rv a, .val (.int 1), .val (.double x1), .second, .val (.double x2), .second, .val (.double x3), .second] [(.ref ga)]) st1 ?_
  refine own_S (mkF m 5 #[rv a, .val (.int 1), .val (.double x1), .second, .val (.double x2), .second, .val (.double x3), .second] [(.int 1), (.ref ga)]) (fun _ k => XS.iloadN X1.here hx rfl (hb hby d6_4) rfl k) ?_
  refine own_S (mkF m 6 #[rv a, .val (.int 1), .val (.double x1), .second, .val (.double x2), .second, .val (.double x3), .second] [(.double x1)]) (fun _ k => own_ldD X1 hx hZ e1 P3 (by decide) rfl (g := (mkF m 5 #[rv a, .val (.int 1), .val (.double x1), .second, .val (.double x2), .second, .val (.double x3), .second] [(.int 1), (.ref ga)])) rfl rfl (hb hby d6_5) _ k) ?_
  refine own_S (mkF m 7 #[rv a, .val (.int 1), .val (.double x1), .second, .val (.double x2), .second, .val (.double x3), .second] [(.double x1), (.double x1)]) (fun _ k => XS.dloadN X1.here hx rfl (hb hby d6_6) rfl k) ?_
  refine own_S (mkF m 8 #[rv a, .val (.int 1), .val (.double x1), .second, .val (.double x2), .second, .val (.double x3), .second] [(.int 0)]) (fun _ k => XS.dcmpS X1.here hx rfl (hb hby d6_7) rfl (dcmpV_self n1 _) k) ?_
  have hc2 : (0 : Int32) = (0 : Int32) := by decide
  refine own_S (mkF m 11 #[rv a, .val (.int 1), .val (.double x1), .second, .val (.double x2), .second, .val (.double x3), .second] []) (fun _ k => XS.ifNo X1.here hx rfl (hb hby d6_8) rfl ((if0 _ _).trans (teq hc2).2) k) ?_
  refine own_S (mkF m 12 #[rv a, .val (.int 1), .val (.double x1), .second, .val (.double x2), .second, .val (.double x3), .second] [(.ref a)]) (fun _ k => XS.aloadN X1.here hx rfl (hb hby d6_11) rfl rfl k) ?_
  obtain ⟨T3, X3, e3, st3⟩ := getF X1 hx hZ hown (host := "") (Or.inl (own_g hw (i := 50) rfl)) Via.refl e1 P1 (g := (mkF m 12 #[rv a, .val (.int 1), .val (.double x1), .second, .val (.double x2), .second, .val (.double x3), .second] [(.ref a)])) rfl rfl (hb hby d6_12)
  refine own_S (mkF m 15 #[rv a, .val (.int 1), .val (.double x1), .second, .val (.double x2), .second, .val (.double x3), .second] [(.ref sa)]) st3 ?_
  refine own_S (mkF m 16 #[rv a, .val (.int 1), .val (.double x1), .second, .val (.double x2), .second, .val (.double x3), .second] [(.int 1), (.ref sa)]) (fun _ k => XS.iloadN X3.here hx rfl (hb hby d6_15) rfl k) ?_
  refine own_S (mkF m 17 #[rv a, .val (.int 1), .val (.double x1), .second, .val (.double x2), .second, .val (.double x3), .second] [(.double x2)]) (fun _ k => own_ldD X3 hx hZ e3 P4 (by decide) rfl (g := (mkF m 16 #[rv a, .val (.int 1), .val (.double x1), .second, .val (.double x2), .second, .val (.double x3), .second] [(.int 1), (.ref sa)])) rfl rfl (hb hby d6_16) _ k) ?_
  refine own_S (mkF m 19 #[rv a, .val (.int 1), .val (.double x1), .second, .val (.double x2), .second, .val (.double x3), .second] [(.double x2), (.double x2)]) (fun _ k => XS.dload X3.here hx rfl (hb hby d6_17) rfl k) ?_
  refine own_S (mkF m 20 #[rv a, .val (.int 1), .val (.double x1), .second, .val (.double x2), .second, .val (.double x3), .second] [(.int 0)]) (fun _ k => XS.dcmpS X3.here hx rfl (hb hby d6_19) rfl (dcmpV_self n2 _) k) ?_
  have hc4 : (0 : Int32) = (0 : Int32) := by decide
  refine own_S (mkF m 23 #[rv a, .val (.int 1), .val (.double x1), .second, .val (.double x2), .second, .val (.double x3), .second] []) (fun _ k => XS.ifNo X3.here hx rfl (hb hby d6_20) rfl ((if0 _ _).trans (teq hc4).2) k) ?_
  refine own_S (mkF m 24 #[rv a, .val (.int 1), .val (.double x1), .second, .val (.double x2), .second, .val (.double x3), .second] [(.ref a)]) (fun _ k => XS.aloadN X3.here hx rfl (hb hby d6_23) rfl rfl k) ?_
  obtain ⟨T5, X5, e5, st5⟩ := getF X3 hx hZ hown (host := "") (Or.inl (own_g hw (i := 51) rfl)) Via.refl e3 P2 (g := (mkF m 24 #[rv a, .val (.int 1), .val (.double x1), .second, .val (.double x2), .second, .val (.double x3), .second] [(.ref a)])) rfl rfl (hb hby d6_24)
  refine own_S (mkF m 27 #[rv a, .val (.int 1), .val (.double x1), .second, .val (.double x2), .second, .val (.double x3), .second] [(.ref la)]) st5 ?_
  refine own_S (mkF m 28 #[rv a, .val (.int 1), .val (.double x1), .second, .val (.double x2), .second, .val (.double x3), .second] [(.int 1), (.ref la)]) (fun _ k => XS.iloadN X5.here hx rfl (hb hby d6_27) rfl k) ?_
  refine own_S (mkF m 29 #[rv a, .val (.int 1), .val (.double x1), .second, .val (.double x2), .second, .val (.double x3), .second] [(.double x3)]) (fun _ k => own_ldD X5 hx hZ e5 P5 (by decide) rfl (g := (mkF m 28 #[rv a, .val (.int 1), .val (.double x1), .second, .val (.double x2), .second, .val (.double x3), .second] [(.int 1), (.ref la)])) rfl rfl (hb hby d6_28) _ k) ?_
  refine own_S (mkF m 31 #[rv a, .val (.int 1), .val (.double x1), .second, .val (.double x2), .second, .val (.double x3), .second] [(.double x3), (.double x3)]) (fun _ k => XS.dload X5.here hx rfl (hb hby d6_29) rfl k) ?_
  refine own_S (mkF m 32 #[rv a, .val (.int 1), .val (.double x1), .second, .val (.double x2), .second, .val (.double x3), .second] [(.int 0)]) (fun _ k => XS.dcmpS X5.here hx rfl (hb hby d6_31) rfl (dcmpV_self n3 _) k) ?_
  have hc6 : (0 : Int32) = (0 : Int32) := by decide
  refine own_S (mkF m 35 #[rv a, .val (.int 1), .val (.double x1), .second, .val (.double x2), .second, .val (.double x3), .second] []) (fun _ k => XS.ifNo X5.here hx rfl (hb hby d6_32) rfl ((if0 _ _).trans (teq hc6).2) k) ?_
  refine own_S (mkF m 36 #[rv a, .val (.int 1), .val (.double x1), .second, .val (.double x2), .second, .val (.double x3), .second] [(.int 1)]) (fun _ k => XS.iconst X5.here hx rfl (hb hby d6_35) k) ?_
  refine own_S (mkF m 40 #[rv a, .val (.int 1), .val (.double x1), .second, .val (.double x2), .second, .val (.double x3), .second] [(.int 1)]) (fun _ k => XS.goto X5.here hx rfl (pc0 := 36) (pc' := 40) rfl (hb hby d6_36) (by decide) (by decide) k) ?_
  exact own_retN X5 hx hlk (t := .boolean) hret (by simp) (hb hby d6_40) (by rw [e5]; exact ⟨rfl, N0, rfl⟩) (by decide) (by decide)
theorem d5_0 : decode prog_28_method_6_code 0 = .ok (.aload_n 0, 1) := by decide +kernel
theorem d5_1 : decode prog_28_method_6_code 1 = .ok (.getfield 7, 3) := by decide +kernel
theorem d5_4 : decode prog_28_method_6_code 4 = .ok (.astore_n 1, 1) := by decide +kernel
theorem d5_5 : decode prog_28_method_6_code 5 = .ok (.aload_n 0, 1) := by decide +kernel
theorem d5_6 : decode prog_28_method_6_code 6 = .ok (.aload_n 0, 1) := by decide +kernel
theorem d5_7 : decode prog_28_method_6_code 7 = .ok (.getfield 30, 3) := by decide +kernel
theorem d5_10 : decode prog_28_method_6_code 10 = .ok (.putfield 7, 3) := by decide +kernel
theorem d5_13 : decode prog_28_method_6_code 13 = .ok (.aload_n 0, 1) := by decide +kernel
theorem d5_14 : decode prog_28_method_6_code 14 = .ok (.aload_n 1, 1) := by decide +kernel
theorem d5_15 : decode prog_28_method_6_code 15 = .ok (.putfield 30, 3) := by decide +kernel
theorem d5_18 : decode prog_28_method_6_code 18 = .ok (.aload_n 0, 1) := by decide +kernel
theorem d5_19 : decode prog_28_method_6_code 19 = .ok (.getfield 13, 3) := by decide +kernel
theorem d5_22 : decode prog_28_method_6_code 22 = .ok (.astore_n 1, 1) := by decide +kernel
theorem d5_23 : decode prog_28_method_6_code 23 = .ok (.aload_n 0, 1) := by decide +kernel
theorem d5_24 : decode prog_28_method_6_code 24 = .ok (.aload_n 0, 1) := by decide +kernel
theorem d5_25 : decode prog_28_method_6_code 25 = .ok (.getfield 33, 3) := by decide +kernel
theorem d5_28 : decode prog_28_method_6_code 28 = .ok (.putfield 13, 3) := by decide +kernel
theorem d5_31 : decode prog_28_method_6_code 31 = .ok (.aload_n 0, 1) := by decide +kernel
theorem d5_32 : decode prog_28_method_6_code 32 = .ok (.aload_n 1, 1) := by decide +kernel
theorem d5_33 : decode prog_28_method_6_code 33 = .ok (.putfield 33, 3) := by decide +kernel
theorem d5_36 : decode prog_28_method_6_code 36 = .ok (.aload_n 0, 1) := by decide +kernel
theorem d5_37 : decode prog_28_method_6_code 37 = .ok (.getfield 16, 3) := by decide +kernel
theorem d5_40 : decode prog_28_method_6_code 40 = .ok (.astore_n 1, 1) := by decide +kernel
theorem d5_41 : decode prog_28_method_6_code 41 = .ok (.aload_n 0, 1) := by decide +kernel
theorem d5_42 : decode prog_28_method_6_code 42 = .ok (.aload_n 0, 1) := by decide +kernel
theorem d5_43 : decode prog_28_method_6_code 43 = .ok (.getfield 36, 3) := by decide +kernel
theorem d5_46 : decode prog_28_method_6_code 46 = .ok (.putfield 16, 3) := by decide +kernel
theorem d5_49 : decode prog_28_method_6_code 49 = .ok (.aload_n 0, 1) := by decide +kernel
theorem d5_50 : decode prog_28_method_6_code 50 = .ok (.aload_n 1, 1) := by decide +kernel
theorem d5_51 : decode prog_28_method_6_code 51 = .ok (.putfield 36, 3) := by decide +kernel
theorem d5_54 : decode prog_28_method_6_code 54 = .ok (.return_, 1) := by decide +kernel
theorem own_pf_adv : plainFor own_y4 = true := by first | exact plainFor_of_name (show plainName "com/example/accrue/accrue/exact/Paths" = true by first | (simp [plainName, overriddenIn]; done) | decide +kernel) | decide +kernel
theorem own_ef_adv (m : MethodId) (y0 : Addr) : entryFrame m #[(.ref y0)] 2 = mkF m 0 #[rv y0, .unset] [] := by first | (simp [entryFrame, mkF, argsToLocals, Value.category]; done) | rfl
def own_Qadv (Z : State) (a : Addr) (ga : Addr) (sa : Addr) (la : Addr) (ng : Addr) (ns : Addr) (nl : Addr) (h0 : Heap) (n0 : Nat) (v : Option Value) (h : Heap) (L : List Loc) : Prop := v = none ∧ Fr n0 L ∧ Keep h0 h [a] ∧ Exa Z h a "com/example/accrue/accrue/exact/Paths" ∧ Fld Z h a "com/example/accrue/accrue/exact/Paths" "gathered" "[D" (.ref ng) ∧ Fld Z h a "com/example/accrue/accrue/exact/Paths" "staying" "[D" (.ref ns) ∧ Fld Z h a "com/example/accrue/accrue/exact/Paths" "leaving" "[D" (.ref nl) ∧ Fld Z h a "com/example/accrue/accrue/exact/Paths" "nextGathered" "[D" (.ref ga) ∧ Fld Z h a "com/example/accrue/accrue/exact/Paths" "nextStaying" "[D" (.ref sa) ∧ Fld Z h a "com/example/accrue/accrue/exact/Paths" "nextLeaving" "[D" (.ref la)
set_option maxRecDepth 65536 in
set_option maxHeartbeats 40000000 in
theorem own_rmadv (l : Launch) (Z : State) (a0 : Array Value) (hw : ∀ d ∈ tables_1, d.before a0 Z = true) (ws : List Jvm.Cond) (a : Addr) (ga : Addr) (sa : Addr) (la : Addr) (ng : Addr) (ns : Addr) (nl : Addr) (h0 : Heap) (n0 : Nat) (Z0 : n0 ≤ h0.size) (P0 : Exa Z h0 a "com/example/accrue/accrue/exact/Paths") (P1 : Fld Z h0 a "com/example/accrue/accrue/exact/Paths" "gathered" "[D" (.ref ga)) (P2 : Fld Z h0 a "com/example/accrue/accrue/exact/Paths" "staying" "[D" (.ref sa)) (P3 : Fld Z h0 a "com/example/accrue/accrue/exact/Paths" "leaving" "[D" (.ref la)) (P4 : Fld Z h0 a "com/example/accrue/accrue/exact/Paths" "nextGathered" "[D" (.ref ng)) (P5 : Fld Z h0 a "com/example/accrue/accrue/exact/Paths" "nextStaying" "[D" (.ref ns)) (P6 : Fld Z h0 a "com/example/accrue/accrue/exact/Paths" "nextLeaving" "[D" (.ref nl)) (G_a : n0 ≤ a) :
    MetFree l own_y4 (head1 (Jvm.Cond.code own_y4 prog_28_method_6_code 2 none :: ws) ({ frames := 0, cells := 0, slots := 0, locals := 0 } : Room)) (fun az Uz => az = #[(.ref a)] ∧ Z.Warmed39 Uz.vm ∧ Uz.heap = h0) (fun _ _ _ _ _ => True) (fun _ U o U' => ∃ v L, o = .returned v ∧ own_Qadv Z a ga sa la ng ns nl h0 n0 v U'.heap L ∧ FrameEnd U o U' L ({ frames := 0, cells := 0, slots := 0, locals := 0 } : Room).cells ({ frames := 0, cells := 0, slots := 0, locals := 0 } : Room).slots) := by
  refine MetFree.of_bodySF own_pf_adv hisR ?_
  intro p e s m args below meth c s₁ Bd hml0 hP hK
  obtain ⟨rfl, hZ, hh⟩ := hP
  have hx := Bd.exec
  have hby := Bd.bytes
  have hml : c.maxLocals = 2 := hml0
  have hown : s.vm.findClass "com/example/accrue/accrue/exact/Paths" = some m.cls := findClass_of_methodNamed Bd.named
  have hnm := (name_of_methodNamed Bd.named Bd.method).1
  have hlk : meth.locks = false := BodyLoose.notSynchronized Bd
  have hret := Bd.returns
  have X0 : Stand p l e ({ frames := 0, cells := 0, slots := 0, locals := 0 } : Room) s m #[(.ref a)] below meth c s₁ [] 0 0 := Stand.of_body Bd
  have e0 : s₁.heap = h0 := by rw [← hh, Bd.state]; rfl
  have N0 := Fr.nil n0
  show own_E p e below (own_K s (own_Qadv Z a ga sa la ng ns nl h0 n0) ({ frames := 0, cells := 0, slots := 0, locals := 0 } : Room).cells ({ frames := 0, cells := 0, slots := 0, locals := 0 } : Room).slots) s₁ (entryFrame m #[(.ref a)] 2)
  refine own_S (mkF m 0 #[rv a, .unset] []) (fun _ k => castTop (own_ef_adv m (a)) k) ?_
  refine own_S (mkF m 1 #[rv a, .unset] [(.ref a)]) (fun _ k => XS.aloadN X0.here hx rfl (hb hby d5_0) rfl rfl k) ?_
  obtain ⟨T1, X1, e1, st1⟩ := getF X0 hx hZ hown (host := "") (Or.inl (own_g hw (i := 10) rfl)) Via.refl e0 P1 (g := (mkF m 1 #[rv a, .unset] [(.ref a)])) rfl rfl (hb hby d5_1)
  refine own_S (mkF m 4 #[rv a, .unset] [(.ref ga)]) st1 ?_
  refine own_S (mkF m 5 #[rv a, rv ga] []) (fun _ k => XS.astoreN X1.here hx rfl (hb hby d5_4) rfl rfl (l' := #[rv a, rv ga]) rfl k) ?_
  refine own_S (mkF m 6 #[rv a, rv ga] [(.ref a)]) (fun _ k => XS.aloadN X1.here hx rfl (hb hby d5_5) rfl rfl k) ?_
  refine own_S (mkF m 7 #[rv a, rv ga] [(.ref a), (.ref a)]) (fun _ k => XS.aloadN X1.here hx rfl (hb hby d5_6) rfl rfl k) ?_
  obtain ⟨T2, X2, e2, st2⟩ := getF X1 hx hZ hown (host := "") (Or.inl (own_g hw (i := 29) rfl)) Via.refl e1 P4 (g := (mkF m 7 #[rv a, rv ga] [(.ref a), (.ref a)])) rfl rfl (hb hby d5_7)
  refine own_S (mkF m 10 #[rv a, rv ga] [(.ref ng), (.ref a)]) st2 ?_
  obtain ⟨T3, h3, X3, e3, W3, st3⟩ := putF X2 hx hZ hown (host := "") (Or.inl (own_g hw (i := 10) rfl)) Via.refl e2 P1 P0 (Or.inl (own_g hw (i := 11) rfl)) (own_g hw (i := 1) rfl) (ty := (.array .double)) (by decide) rfl rfl (g := (mkF m 10 #[rv a, rv ga] [(.ref ng), (.ref a)])) rfl rfl (hb hby d5_10)
  refine own_S (mkF m 13 #[rv a, rv ga] []) st3 ?_
  have F4 := P0.wr W3
  have F5 := P1.same W3
  have F6 := P2.other W3 (Or.inr (slot_ne (Or.inl (own_g hw (i := 13) rfl)) (Or.inl (own_g hw (i := 11) rfl)) (by decide) (t := (.array .double)) (t' := (.array .double)) (by decide) (by decide)))
  have F7 := P3.other W3 (Or.inr (slot_ne (Or.inl (own_g hw (i := 15) rfl)) (Or.inl (own_g hw (i := 11) rfl)) (by decide) (t := (.array .double)) (t' := (.array .double)) (by decide) (by decide)))
  have F8 := P4.other W3 (Or.inr (slot_ne (Or.inl (own_g hw (i := 30) rfl)) (Or.inl (own_g hw (i := 11) rfl)) (by decide) (t := (.array .double)) (t' := (.array .double)) (by decide) (by decide)))
  have F9 := P5.other W3 (Or.inr (slot_ne (Or.inl (own_g hw (i := 32) rfl)) (Or.inl (own_g hw (i := 11) rfl)) (by decide) (t := (.array .double)) (t' := (.array .double)) (by decide) (by decide)))
  have F10 := P6.other W3 (Or.inr (slot_ne (Or.inl (own_g hw (i := 34) rfl)) (Or.inl (own_g hw (i := 11) rfl)) (by decide) (t := (.array .double)) (t' := (.array .double)) (by decide) (by decide)))
  have N3 := Fr.snoc X3 N0 G_a
  have Z3 : n0 ≤ h3.size := by rw [Wr.size W3]; exact Z0
  have K3 : Keep h0 h3 [a] := (Keep.refl _ _).wr W3 (Or.inl (List.mem_of_getElem? (i := 0) rfl))
  refine own_S (mkF m 14 #[rv a, rv ga] [(.ref a)]) (fun _ k => XS.aloadN X3.here hx rfl (hb hby d5_13) rfl rfl k) ?_
  refine own_S (mkF m 15 #[rv a, rv ga] [(.ref ga), (.ref a)]) (fun _ k => XS.aloadN X3.here hx rfl (hb hby d5_14) rfl rfl k) ?_
  obtain ⟨T11, h11, X11, e11, W11, st11⟩ := putF X3 hx hZ hown (host := "") (Or.inl (own_g hw (i := 29) rfl)) Via.refl e3 F8 F4 (Or.inl (own_g hw (i := 30) rfl)) (own_g hw (i := 1) rfl) (ty := (.array .double)) (by decide) rfl rfl (g := (mkF m 15 #[rv a, rv ga] [(.ref ga), (.ref a)])) rfl rfl (hb hby d5_15)
  refine own_S (mkF m 18 #[rv a, rv ga] []) st11 ?_
  have F12 := F4.wr W11
  have F13 := F5.other W11 (Or.inr (slot_ne (Or.inl (own_g hw (i := 11) rfl)) (Or.inl (own_g hw (i := 30) rfl)) (by decide) (t := (.array .double)) (t' := (.array .double)) (by decide) (by decide)))
  have F14 := F6.other W11 (Or.inr (slot_ne (Or.inl (own_g hw (i := 13) rfl)) (Or.inl (own_g hw (i := 30) rfl)) (by decide) (t := (.array .double)) (t' := (.array .double)) (by decide) (by decide)))
  have F15 := F7.other W11 (Or.inr (slot_ne (Or.inl (own_g hw (i := 15) rfl)) (Or.inl (own_g hw (i := 30) rfl)) (by decide) (t := (.array .double)) (t' := (.array .double)) (by decide) (by decide)))
  have F16 := F8.same W11
  have F17 := F9.other W11 (Or.inr (slot_ne (Or.inl (own_g hw (i := 32) rfl)) (Or.inl (own_g hw (i := 30) rfl)) (by decide) (t := (.array .double)) (t' := (.array .double)) (by decide) (by decide)))
  have F18 := F10.other W11 (Or.inr (slot_ne (Or.inl (own_g hw (i := 34) rfl)) (Or.inl (own_g hw (i := 30) rfl)) (by decide) (t := (.array .double)) (t' := (.array .double)) (by decide) (by decide)))
  have N11 := Fr.snoc X11 N3 G_a
  have Z11 : n0 ≤ h11.size := by rw [Wr.size W11]; exact Z3
  have K11 : Keep h0 h11 [a] := K3.wr W11 (Or.inl (List.mem_of_getElem? (i := 0) rfl))
  refine own_S (mkF m 19 #[rv a, rv ga] [(.ref a)]) (fun _ k => XS.aloadN X11.here hx rfl (hb hby d5_18) rfl rfl k) ?_
  obtain ⟨T19, X19, e19, st19⟩ := getF X11 hx hZ hown (host := "") (Or.inl (own_g hw (i := 12) rfl)) Via.refl e11 F14 (g := (mkF m 19 #[rv a, rv ga] [(.ref a)])) rfl rfl (hb hby d5_19)
  refine own_S (mkF m 22 #[rv a, rv ga] [(.ref sa)]) st19 ?_
  refine own_S (mkF m 23 #[rv a, rv sa] []) (fun _ k => XS.astoreN X19.here hx rfl (hb hby d5_22) rfl rfl (l' := #[rv a, rv sa]) rfl k) ?_
  refine own_S (mkF m 24 #[rv a, rv sa] [(.ref a)]) (fun _ k => XS.aloadN X19.here hx rfl (hb hby d5_23) rfl rfl k) ?_
  refine own_S (mkF m 25 #[rv a, rv sa] [(.ref a), (.ref a)]) (fun _ k => XS.aloadN X19.here hx rfl (hb hby d5_24) rfl rfl k) ?_
  obtain ⟨T20, X20, e20, st20⟩ := getF X19 hx hZ hown (host := "") (Or.inl (own_g hw (i := 31) rfl)) Via.refl e19 F17 (g := (mkF m 25 #[rv a, rv sa] [(.ref a), (.ref a)])) rfl rfl (hb hby d5_25)
  refine own_S (mkF m 28 #[rv a, rv sa] [(.ref ns), (.ref a)]) st20 ?_
  obtain ⟨T21, h21, X21, e21, W21, st21⟩ := putF X20 hx hZ hown (host := "") (Or.inl (own_g hw (i := 12) rfl)) Via.refl e20 F14 F12 (Or.inl (own_g hw (i := 13) rfl)) (own_g hw (i := 1) rfl) (ty := (.array .double)) (by decide) rfl rfl (g := (mkF m 28 #[rv a, rv sa] [(.ref ns), (.ref a)])) rfl rfl (hb hby d5_28)
  refine own_S (mkF m 31 #[rv a, rv sa] []) st21 ?_
  have F22 := F12.wr W21
  have F23 := F13.other W21 (Or.inr (slot_ne (Or.inl (own_g hw (i := 11) rfl)) (Or.inl (own_g hw (i := 13) rfl)) (by decide) (t := (.array .double)) (t' := (.array .double)) (by decide) (by decide)))
  have F24 := F14.same W21
  have F25 := F15.other W21 (Or.inr (slot_ne (Or.inl (own_g hw (i := 15) rfl)) (Or.inl (own_g hw (i := 13) rfl)) (by decide) (t := (.array .double)) (t' := (.array .double)) (by decide) (by decide)))
  have F26 := F16.other W21 (Or.inr (slot_ne (Or.inl (own_g hw (i := 30) rfl)) (Or.inl (own_g hw (i := 13) rfl)) (by decide) (t := (.array .double)) (t' := (.array .double)) (by decide) (by decide)))
  have F27 := F17.other W21 (Or.inr (slot_ne (Or.inl (own_g hw (i := 32) rfl)) (Or.inl (own_g hw (i := 13) rfl)) (by decide) (t := (.array .double)) (t' := (.array .double)) (by decide) (by decide)))
  have F28 := F18.other W21 (Or.inr (slot_ne (Or.inl (own_g hw (i := 34) rfl)) (Or.inl (own_g hw (i := 13) rfl)) (by decide) (t := (.array .double)) (t' := (.array .double)) (by decide) (by decide)))
  have N21 := Fr.snoc X21 N11 G_a
  have Z21 : n0 ≤ h21.size := by rw [Wr.size W21]; exact Z11
  have K21 : Keep h0 h21 [a] := K11.wr W21 (Or.inl (List.mem_of_getElem? (i := 0) rfl))
  refine own_S (mkF m 32 #[rv a, rv sa] [(.ref a)]) (fun _ k => XS.aloadN X21.here hx rfl (hb hby d5_31) rfl rfl k) ?_
  refine own_S (mkF m 33 #[rv a, rv sa] [(.ref sa), (.ref a)]) (fun _ k => XS.aloadN X21.here hx rfl (hb hby d5_32) rfl rfl k) ?_
  obtain ⟨T29, h29, X29, e29, W29, st29⟩ := putF X21 hx hZ hown (host := "") (Or.inl (own_g hw (i := 31) rfl)) Via.refl e21 F27 F22 (Or.inl (own_g hw (i := 32) rfl)) (own_g hw (i := 1) rfl) (ty := (.array .double)) (by decide) rfl rfl (g := (mkF m 33 #[rv a, rv sa] [(.ref sa), (.ref a)])) rfl rfl (hb hby d5_33)
  refine own_S (mkF m 36 #[rv a, rv sa] []) st29 ?_
  have F30 := F22.wr W29
  have F31 := F23.other W29 (Or.inr (slot_ne (Or.inl (own_g hw (i := 11) rfl)) (Or.inl (own_g hw (i := 32) rfl)) (by decide) (t := (.array .double)) (t' := (.array .double)) (by decide) (by decide)))
  have F32 := F24.other W29 (Or.inr (slot_ne (Or.inl (own_g hw (i := 13) rfl)) (Or.inl (own_g hw (i := 32) rfl)) (by decide) (t := (.array .double)) (t' := (.array .double)) (by decide) (by decide)))
  have F33 := F25.other W29 (Or.inr (slot_ne (Or.inl (own_g hw (i := 15) rfl)) (Or.inl (own_g hw (i := 32) rfl)) (by decide) (t := (.array .double)) (t' := (.array .double)) (by decide) (by decide)))
  have F34 := F26.other W29 (Or.inr (slot_ne (Or.inl (own_g hw (i := 30) rfl)) (Or.inl (own_g hw (i := 32) rfl)) (by decide) (t := (.array .double)) (t' := (.array .double)) (by decide) (by decide)))
  have F35 := F27.same W29
  have F36 := F28.other W29 (Or.inr (slot_ne (Or.inl (own_g hw (i := 34) rfl)) (Or.inl (own_g hw (i := 32) rfl)) (by decide) (t := (.array .double)) (t' := (.array .double)) (by decide) (by decide)))
  have N29 := Fr.snoc X29 N21 G_a
  have Z29 : n0 ≤ h29.size := by rw [Wr.size W29]; exact Z21
  have K29 : Keep h0 h29 [a] := K21.wr W29 (Or.inl (List.mem_of_getElem? (i := 0) rfl))
  refine own_S (mkF m 37 #[rv a, rv sa] [(.ref a)]) (fun _ k => XS.aloadN X29.here hx rfl (hb hby d5_36) rfl rfl k) ?_
  obtain ⟨T37, X37, e37, st37⟩ := getF X29 hx hZ hown (host := "") (Or.inl (own_g hw (i := 14) rfl)) Via.refl e29 F33 (g := (mkF m 37 #[rv a, rv sa] [(.ref a)])) rfl rfl (hb hby d5_37)
  refine own_S (mkF m 40 #[rv a, rv sa] [(.ref la)]) st37 ?_
  refine own_S (mkF m 41 #[rv a, rv la] []) (fun _ k => XS.astoreN X37.here hx rfl (hb hby d5_40) rfl rfl (l' := #[rv a, rv la]) rfl k) ?_
  refine own_S (mkF m 42 #[rv a, rv la] [(.ref a)]) (fun _ k => XS.aloadN X37.here hx rfl (hb hby d5_41) rfl rfl k) ?_
  refine own_S (mkF m 43 #[rv a, rv la] [(.ref a), (.ref a)]) (fun _ k => XS.aloadN X37.here hx rfl (hb hby d5_42) rfl rfl k) ?_
  obtain ⟨T38, X38, e38, st38⟩ := getF X37 hx hZ hown (host := "") (Or.inl (own_g hw (i := 33) rfl)) Via.refl e37 F36 (g := (mkF m 43 #[rv a, rv la] [(.ref a), (.ref a)])) rfl rfl (hb hby d5_43)
  refine own_S (mkF m 46 #[rv a, rv la] [(.ref nl), (.ref a)]) st38 ?_
  obtain ⟨T39, h39, X39, e39, W39, st39⟩ := putF X38 hx hZ hown (host := "") (Or.inl (own_g hw (i := 14) rfl)) Via.refl e38 F33 F30 (Or.inl (own_g hw (i := 15) rfl)) (own_g hw (i := 1) rfl) (ty := (.array .double)) (by decide) rfl rfl (g := (mkF m 46 #[rv a, rv la] [(.ref nl), (.ref a)])) rfl rfl (hb hby d5_46)
  refine own_S (mkF m 49 #[rv a, rv la] []) st39 ?_
  have F40 := F30.wr W39
  have F41 := F31.other W39 (Or.inr (slot_ne (Or.inl (own_g hw (i := 11) rfl)) (Or.inl (own_g hw (i := 15) rfl)) (by decide) (t := (.array .double)) (t' := (.array .double)) (by decide) (by decide)))
  have F42 := F32.other W39 (Or.inr (slot_ne (Or.inl (own_g hw (i := 13) rfl)) (Or.inl (own_g hw (i := 15) rfl)) (by decide) (t := (.array .double)) (t' := (.array .double)) (by decide) (by decide)))
  have F43 := F33.same W39
  have F44 := F34.other W39 (Or.inr (slot_ne (Or.inl (own_g hw (i := 30) rfl)) (Or.inl (own_g hw (i := 15) rfl)) (by decide) (t := (.array .double)) (t' := (.array .double)) (by decide) (by decide)))
  have F45 := F35.other W39 (Or.inr (slot_ne (Or.inl (own_g hw (i := 32) rfl)) (Or.inl (own_g hw (i := 15) rfl)) (by decide) (t := (.array .double)) (t' := (.array .double)) (by decide) (by decide)))
  have F46 := F36.other W39 (Or.inr (slot_ne (Or.inl (own_g hw (i := 34) rfl)) (Or.inl (own_g hw (i := 15) rfl)) (by decide) (t := (.array .double)) (t' := (.array .double)) (by decide) (by decide)))
  have N39 := Fr.snoc X39 N29 G_a
  have Z39 : n0 ≤ h39.size := by rw [Wr.size W39]; exact Z29
  have K39 : Keep h0 h39 [a] := K29.wr W39 (Or.inl (List.mem_of_getElem? (i := 0) rfl))
  refine own_S (mkF m 50 #[rv a, rv la] [(.ref a)]) (fun _ k => XS.aloadN X39.here hx rfl (hb hby d5_49) rfl rfl k) ?_
  refine own_S (mkF m 51 #[rv a, rv la] [(.ref la), (.ref a)]) (fun _ k => XS.aloadN X39.here hx rfl (hb hby d5_50) rfl rfl k) ?_
  obtain ⟨T47, h47, X47, e47, W47, st47⟩ := putF X39 hx hZ hown (host := "") (Or.inl (own_g hw (i := 33) rfl)) Via.refl e39 F46 F40 (Or.inl (own_g hw (i := 34) rfl)) (own_g hw (i := 1) rfl) (ty := (.array .double)) (by decide) rfl rfl (g := (mkF m 51 #[rv a, rv la] [(.ref la), (.ref a)])) rfl rfl (hb hby d5_51)
  refine own_S (mkF m 54 #[rv a, rv la] []) st47 ?_
  have F48 := F40.wr W47
  have F49 := F41.other W47 (Or.inr (slot_ne (Or.inl (own_g hw (i := 11) rfl)) (Or.inl (own_g hw (i := 34) rfl)) (by decide) (t := (.array .double)) (t' := (.array .double)) (by decide) (by decide)))
  have F50 := F42.other W47 (Or.inr (slot_ne (Or.inl (own_g hw (i := 13) rfl)) (Or.inl (own_g hw (i := 34) rfl)) (by decide) (t := (.array .double)) (t' := (.array .double)) (by decide) (by decide)))
  have F51 := F43.other W47 (Or.inr (slot_ne (Or.inl (own_g hw (i := 15) rfl)) (Or.inl (own_g hw (i := 34) rfl)) (by decide) (t := (.array .double)) (t' := (.array .double)) (by decide) (by decide)))
  have F52 := F44.other W47 (Or.inr (slot_ne (Or.inl (own_g hw (i := 30) rfl)) (Or.inl (own_g hw (i := 34) rfl)) (by decide) (t := (.array .double)) (t' := (.array .double)) (by decide) (by decide)))
  have F53 := F45.other W47 (Or.inr (slot_ne (Or.inl (own_g hw (i := 32) rfl)) (Or.inl (own_g hw (i := 34) rfl)) (by decide) (t := (.array .double)) (t' := (.array .double)) (by decide) (by decide)))
  have F54 := F46.same W47
  have N47 := Fr.snoc X47 N39 G_a
  have Z47 : n0 ≤ h47.size := by rw [Wr.size W47]; exact Z39
  have K47 : Keep h0 h47 [a] := K39.wr W47 (Or.inl (List.mem_of_getElem? (i := 0) rfl))
  exact own_ret0 X47 hx hlk hret (hb hby d5_54) (by rw [e47]; exact ⟨rfl, N47, K47, F48, F49, F50, F51, F52, F53, F54⟩) (by decide) (by decide)
theorem own_pd__I_V : parseMethodDescriptor "(I)V" = some ⟨[.int], none⟩ := by decide +kernel
theorem own_pd__IDDD_V : parseMethodDescriptor "(IDDD)V" = some ⟨[.int, .double, .double, .double], none⟩ := by decide +kernel
theorem own_pd___V : parseMethodDescriptor "()V" = some ⟨[], none⟩ := by decide +kernel
theorem own_pd__Lcom_example_accrue_accrue_exact_Paths_IDDD_Z : parseMethodDescriptor "(Lcom/example/accrue/accrue/exact/Paths;IDDD)Z" = some ⟨[(.object "com/example/accrue/accrue/exact/Paths"), .int, .double, .double, .double], (some .boolean)⟩ := by decide +kernel
theorem own_pf_law : plainFor x = true := by first | exact plainFor_of_name (show plainName "com/example/accrue/accrue/exact/PathsAdvancePinLaw" = true by first | (simp [plainName, overriddenIn]; done) | decide +kernel) | decide +kernel
theorem own_ef_law (m : MethodId) (y0 : Int32) (y1 : Int32) (y2 : Int32) (y3 : Int32) (y4 : Int32) (y5 : Int32) : entryFrame m #[(.int y0), (.int y1), (.int y2), (.int y3), (.int y4), (.int y5)] maxLocals = mkF m 0 #[iv y0, iv y1, iv y2, iv y3, iv y4, iv y5, .unset, .unset, .unset, .unset, .unset, .unset, .unset, .unset, .unset, .unset, .unset, .unset, .unset, .unset, .unset, .unset] [] := by first | (simp [entryFrame, mkF, argsToLocals, Value.category, maxLocals]; done) | rfl
def own_Qlaw (Z : State) (sl : Int32) (a1 : Int32) (b1 : Int32) (c1 : Int32) (d1 : Int32) (e1 : Int32) (h0 : Heap) (n0 : Nat) (v : Option Value) (h : Heap) (L : List Loc) : Prop := v = some (.int 1) ∧ Fr n0 L ∧ True
set_option maxRecDepth 65536 in
set_option maxHeartbeats 40000000 in
theorem own_rmlaw (l : Launch) (Z : State) (a0 : Array Value) (hw : ∀ d ∈ tables_1, d.before a0 Z = true) (ws : List Jvm.Cond) (sl : Int32) (a1 : Int32) (b1 : Int32) (c1 : Int32) (d1 : Int32) (e1 : Int32) (h0 : Heap) (n0 : Nat) (Z0 : n0 ≤ h0.size)  :
    MetFree l x (head1 (Jvm.Cond.code x code maxLocals ret :: ws) room_1) (fun az Uz => az = #[(.int sl), (.int a1), (.int b1), (.int c1), (.int d1), (.int e1)] ∧ Z.Warmed39 Uz.vm ∧ Uz.heap = h0) (fun _ _ _ _ _ => True) (fun _ U o U' => ∃ v L, o = .returned v ∧ own_Qlaw Z sl a1 b1 c1 d1 e1 h0 n0 v U'.heap L ∧ FrameEnd U o U' L room_1.cells room_1.slots) := by
  refine MetFree.of_bodySF own_pf_law hisR ?_
  intro p e s m args below meth c s₁ Bd hml0 hP hK
  obtain ⟨rfl, hZ, hh⟩ := hP
  have hx := Bd.exec
  have hby := Bd.bytes
  have hml : c.maxLocals = 22 := hml0
  have hown : s.vm.findClass "com/example/accrue/accrue/exact/PathsAdvancePinLaw" = some m.cls := findClass_of_methodNamed Bd.named
  have hnm := (name_of_methodNamed Bd.named Bd.method).1
  have hlk : meth.locks = false := BodyLoose.notSynchronized Bd
  have hret := Bd.returns
  have X0 : Stand p l e room_1 s m #[(.int sl), (.int a1), (.int b1), (.int c1), (.int d1), (.int e1)] below meth c s₁ [] 0 0 := Stand.of_body Bd
  have e0 : s₁.heap = h0 := by rw [← hh, Bd.state]; rfl
  have N0 := Fr.nil n0
  show own_E p e below (own_K s (own_Qlaw Z sl a1 b1 c1 d1 e1 h0 n0) room_1.cells room_1.slots) s₁ (entryFrame m #[(.int sl), (.int a1), (.int b1), (.int c1), (.int d1), (.int e1)] maxLocals)
  refine own_S (mkF m 0 #[iv sl, iv a1, iv b1, iv c1, iv d1, iv e1, .unset, .unset, .unset, .unset, .unset, .unset, .unset, .unset, .unset, .unset, .unset, .unset, .unset, .unset, .unset, .unset] []) (fun _ k => castTop (own_ef_law m (sl) (a1) (b1) (c1) (d1) (e1)) k) ?_
  refine own_S (mkF m 1 #[iv sl, iv a1, iv b1, iv c1, iv d1, iv e1, .unset, .unset, .unset, .unset, .unset, .unset, .unset, .unset, .unset, .unset, .unset, .unset, .unset, .unset, .unset, .unset] [(.int sl)]) (fun _ k => XS.iloadN X0.here hx rfl (hb hby at_0) rfl k) ?_
  refine own_S (mkF m 2 #[iv sl, iv a1, iv b1, iv c1, iv d1, iv e1, .unset, .unset, .unset, .unset, .unset, .unset, .unset, .unset, .unset, .unset, .unset, .unset, .unset, .unset, .unset, .unset] [(.int 1), (.int sl)]) (fun _ k => XS.iconst X0.here hx rfl (hb hby at_1) k) ?_
  refine own_S (mkF m 3 #[iv sl, iv a1, iv b1, iv c1, iv d1, iv e1, .unset, .unset, .unset, .unset, .unset, .unset, .unset, .unset, .unset, .unset, .unset, .unset, .unset, .unset, .unset, .unset] [(.int (sl &&& (1 : Int32)))]) (fun _ k => XS.iand X0.here hx rfl (hb hby at_2) rfl k) ?_
  refine own_S (mkF m 5 #[iv sl, iv a1, iv b1, iv c1, iv d1, iv e1, iv (sl &&& (1 : Int32)), .unset, .unset, .unset, .unset, .unset, .unset, .unset, .unset, .unset, .unset, .unset, .unset, .unset, .unset, .unset] []) (fun _ k => XS.istore X0.here hx rfl (hb hby at_3) rfl (l' := #[iv sl, iv a1, iv b1, iv c1, iv d1, iv e1, iv (sl &&& (1 : Int32)), .unset, .unset, .unset, .unset, .unset, .unset, .unset, .unset, .unset, .unset, .unset, .unset, .unset, .unset, .unset]) rfl k) ?_
  obtain ⟨ss, h_ss⟩ : ∃ z : Int32, z = (sl &&& (1 : Int32)) := ⟨_, rfl⟩
  refine own_S (T' := s₁) (mkF m 5 #[iv sl, iv a1, iv b1, iv c1, iv d1, iv e1, iv ss, .unset, .unset, .unset, .unset, .unset, .unset, .unset, .unset, .unset, .unset, .unset, .unset, .unset, .unset, .unset] []) (fun _ k => by subst h_ss; exact k) ?_
  have o_ss : ss = 0 ∨ ss = 1 := by rw [h_ss]; exact and_one sl
  rcases o_ss with q1_0 | q2_1
  · -- ss = 0
    subst q1_0
    refine own_S (mkF m 6 #[iv sl, iv a1, iv b1, iv c1, iv d1, iv e1, .val (.int 0), .unset, .unset, .unset, .unset, .unset, .unset, .unset, .unset, .unset, .unset, .unset, .unset, .unset, .unset, .unset] [(.int 1)]) (fun _ k => XS.iconst X0.here hx rfl (hb hby at_5) k) ?_
    refine own_S (mkF m 8 #[iv sl, iv a1, iv b1, iv c1, iv d1, iv e1, .val (.int 0), .unset, .unset, .unset, .unset, .unset, .unset, .unset, .unset, .unset, .unset, .unset, .unset, .unset, .unset, .unset] [(.int 0), (.int 1)]) (fun _ k => XS.iload X0.here hx rfl (hb hby at_6) rfl k) ?_
    refine own_S (mkF m 9 #[iv sl, iv a1, iv b1, iv c1, iv d1, iv e1, .val (.int 0), .unset, .unset, .unset, .unset, .unset, .unset, .unset, .unset, .unset, .unset, .unset, .unset, .unset, .unset, .unset] [(.int 1)]) (fun _ k => XS.isub X0.here hx rfl (hb hby at_8) rfl k) ?_
    refine own_S (mkF m 11 #[iv sl, iv a1, iv b1, iv c1, iv d1, iv e1, .val (.int 0), .val (.int 1), .unset, .unset, .unset, .unset, .unset, .unset, .unset, .unset, .unset, .unset, .unset, .unset, .unset, .unset] []) (fun _ k => XS.istore X0.here hx rfl (hb hby at_9) rfl (l' := #[iv sl, iv a1, iv b1, iv c1, iv d1, iv e1, .val (.int 0), .val (.int 1), .unset, .unset, .unset, .unset, .unset, .unset, .unset, .unset, .unset, .unset, .unset, .unset, .unset, .unset]) rfl k) ?_
    refine own_S (mkF m 12 #[iv sl, iv a1, iv b1, iv c1, iv d1, iv e1, .val (.int 0), .val (.int 1), .unset, .unset, .unset, .unset, .unset, .unset, .unset, .unset, .unset, .unset, .unset, .unset, .unset, .unset] [(.int a1)]) (fun _ k => XS.iloadN X0.here hx rfl (hb hby at_11) rfl k) ?_
    refine own_S (mkF m 13 #[iv sl, iv a1, iv b1, iv c1, iv d1, iv e1, .val (.int 0), .val (.int 1), .unset, .unset, .unset, .unset, .unset, .unset, .unset, .unset, .unset, .unset, .unset, .unset, .unset, .unset] [(.double (FP.i2d a1))]) (fun _ k => XS.i2dS X0.here hx rfl (hb hby at_12) rfl rfl k) ?_
    obtain ⟨g1, h_g1⟩ : ∃ z : UInt64, z = (FP.i2d a1) := ⟨_, rfl⟩
    refine own_S (T' := s₁) (mkF m 13 #[iv sl, iv a1, iv b1, iv c1, iv d1, iv e1, .val (.int 0), .val (.int 1), .unset, .unset, .unset, .unset, .unset, .unset, .unset, .unset, .unset, .unset, .unset, .unset, .unset, .unset] [(.double g1)]) (fun _ k => by subst h_g1; exact k) ?_
    have n_g1 : NoNaN64 g1 := by rw [h_g1]; exact (i2d_fin _).noNaN
    refine own_S (mkF m 15 #[iv sl, iv a1, iv b1, iv c1, iv d1, iv e1, .val (.int 0), .val (.int 1), .val (.double g1), .second, .unset, .unset, .unset, .unset, .unset, .unset, .unset, .unset, .unset, .unset, .unset, .unset] []) (fun _ k => XS.dstore X0.here hx rfl (hb hby at_13) rfl (l' := #[iv sl, iv a1, iv b1, iv c1, iv d1, iv e1, .val (.int 0), .val (.int 1), .val (.double g1), .second, .unset, .unset, .unset, .unset, .unset, .unset, .unset, .unset, .unset, .unset, .unset, .unset]) rfl k) ?_
    refine own_S (mkF m 16 #[iv sl, iv a1, iv b1, iv c1, iv d1, iv e1, .val (.int 0), .val (.int 1), .val (.double g1), .second, .unset, .unset, .unset, .unset, .unset, .unset, .unset, .unset, .unset, .unset, .unset, .unset] [(.int b1)]) (fun _ k => XS.iloadN X0.here hx rfl (hb hby at_15) rfl k) ?_
    refine own_S (mkF m 17 #[iv sl, iv a1, iv b1, iv c1, iv d1, iv e1, .val (.int 0), .val (.int 1), .val (.double g1), .second, .unset, .unset, .unset, .unset, .unset, .unset, .unset, .unset, .unset, .unset, .unset, .unset] [(.double (FP.i2d b1))]) (fun _ k => XS.i2dS X0.here hx rfl (hb hby at_16) rfl rfl k) ?_
    obtain ⟨s1, h_s1⟩ : ∃ z : UInt64, z = (FP.i2d b1) := ⟨_, rfl⟩
    refine own_S (T' := s₁) (mkF m 17 #[iv sl, iv a1, iv b1, iv c1, iv d1, iv e1, .val (.int 0), .val (.int 1), .val (.double g1), .second, .unset, .unset, .unset, .unset, .unset, .unset, .unset, .unset, .unset, .unset, .unset, .unset] [(.double s1)]) (fun _ k => by subst h_s1; exact k) ?_
    have n_s1 : NoNaN64 s1 := by rw [h_s1]; exact (i2d_fin _).noNaN
    refine own_S (mkF m 19 #[iv sl, iv a1, iv b1, iv c1, iv d1, iv e1, .val (.int 0), .val (.int 1), .val (.double g1), .second, .val (.double s1), .second, .unset, .unset, .unset, .unset, .unset, .unset, .unset, .unset, .unset, .unset] []) (fun _ k => XS.dstore X0.here hx rfl (hb hby at_17) rfl (l' := #[iv sl, iv a1, iv b1, iv c1, iv d1, iv e1, .val (.int 0), .val (.int 1), .val (.double g1), .second, .val (.double s1), .second, .unset, .unset, .unset, .unset, .unset, .unset, .unset, .unset, .unset, .unset]) rfl k) ?_
    refine own_S (mkF m 20 #[iv sl, iv a1, iv b1, iv c1, iv d1, iv e1, .val (.int 0), .val (.int 1), .val (.double g1), .second, .val (.double s1), .second, .unset, .unset, .unset, .unset, .unset, .unset, .unset, .unset, .unset, .unset] [(.int c1)]) (fun _ k => XS.iloadN X0.here hx rfl (hb hby at_19) rfl k) ?_
    refine own_S (mkF m 21 #[iv sl, iv a1, iv b1, iv c1, iv d1, iv e1, .val (.int 0), .val (.int 1), .val (.double g1), .second, .val (.double s1), .second, .unset, .unset, .unset, .unset, .unset, .unset, .unset, .unset, .unset, .unset] [(.double (FP.i2d c1))]) (fun _ k => XS.i2dS X0.here hx rfl (hb hby at_20) rfl rfl k) ?_
    obtain ⟨l1, h_l1⟩ : ∃ z : UInt64, z = (FP.i2d c1) := ⟨_, rfl⟩
    refine own_S (T' := s₁) (mkF m 21 #[iv sl, iv a1, iv b1, iv c1, iv d1, iv e1, .val (.int 0), .val (.int 1), .val (.double g1), .second, .val (.double s1), .second, .unset, .unset, .unset, .unset, .unset, .unset, .unset, .unset, .unset, .unset] [(.double l1)]) (fun _ k => by subst h_l1; exact k) ?_
    have n_l1 : NoNaN64 l1 := by rw [h_l1]; exact (i2d_fin _).noNaN
    refine own_S (mkF m 23 #[iv sl, iv a1, iv b1, iv c1, iv d1, iv e1, .val (.int 0), .val (.int 1), .val (.double g1), .second, .val (.double s1), .second, .val (.double l1), .second, .unset, .unset, .unset, .unset, .unset, .unset, .unset, .unset] []) (fun _ k => XS.dstore X0.here hx rfl (hb hby at_21) rfl (l' := #[iv sl, iv a1, iv b1, iv c1, iv d1, iv e1, .val (.int 0), .val (.int 1), .val (.double g1), .second, .val (.double s1), .second, .val (.double l1), .second, .unset, .unset, .unset, .unset, .unset, .unset, .unset, .unset]) rfl k) ?_
    refine own_S (mkF m 25 #[iv sl, iv a1, iv b1, iv c1, iv d1, iv e1, .val (.int 0), .val (.int 1), .val (.double g1), .second, .val (.double s1), .second, .val (.double l1), .second, .unset, .unset, .unset, .unset, .unset, .unset, .unset, .unset] [(.int d1)]) (fun _ k => XS.iload X0.here hx rfl (hb hby at_23) rfl k) ?_
    refine own_S (mkF m 26 #[iv sl, iv a1, iv b1, iv c1, iv d1, iv e1, .val (.int 0), .val (.int 1), .val (.double g1), .second, .val (.double s1), .second, .val (.double l1), .second, .unset, .unset, .unset, .unset, .unset, .unset, .unset, .unset] [(.double (FP.i2d d1))]) (fun _ k => XS.i2dS X0.here hx rfl (hb hby at_25) rfl rfl k) ?_
    obtain ⟨g2, h_g2⟩ : ∃ z : UInt64, z = (FP.i2d d1) := ⟨_, rfl⟩
    refine own_S (T' := s₁) (mkF m 26 #[iv sl, iv a1, iv b1, iv c1, iv d1, iv e1, .val (.int 0), .val (.int 1), .val (.double g1), .second, .val (.double s1), .second, .val (.double l1), .second, .unset, .unset, .unset, .unset, .unset, .unset, .unset, .unset] [(.double g2)]) (fun _ k => by subst h_g2; exact k) ?_
    have n_g2 : NoNaN64 g2 := by rw [h_g2]; exact (i2d_fin _).noNaN
    refine own_S (mkF m 28 #[iv sl, iv a1, iv b1, iv c1, iv d1, iv e1, .val (.int 0), .val (.int 1), .val (.double g1), .second, .val (.double s1), .second, .val (.double l1), .second, .val (.double g2), .second, .unset, .unset, .unset, .unset, .unset, .unset] []) (fun _ k => XS.dstore X0.here hx rfl (hb hby at_26) rfl (l' := #[iv sl, iv a1, iv b1, iv c1, iv d1, iv e1, .val (.int 0), .val (.int 1), .val (.double g1), .second, .val (.double s1), .second, .val (.double l1), .second, .val (.double g2), .second, .unset, .unset, .unset, .unset, .unset, .unset]) rfl k) ?_
    refine own_S (mkF m 30 #[iv sl, iv a1, iv b1, iv c1, iv d1, iv e1, .val (.int 0), .val (.int 1), .val (.double g1), .second, .val (.double s1), .second, .val (.double l1), .second, .val (.double g2), .second, .unset, .unset, .unset, .unset, .unset, .unset] [(.int e1)]) (fun _ k => XS.iload X0.here hx rfl (hb hby at_28) rfl k) ?_
    refine own_S (mkF m 31 #[iv sl, iv a1, iv b1, iv c1, iv d1, iv e1, .val (.int 0), .val (.int 1), .val (.double g1), .second, .val (.double s1), .second, .val (.double l1), .second, .val (.double g2), .second, .unset, .unset, .unset, .unset, .unset, .unset] [(.double (FP.i2d e1))]) (fun _ k => XS.i2dS X0.here hx rfl (hb hby at_30) rfl rfl k) ?_
    obtain ⟨s2, h_s2⟩ : ∃ z : UInt64, z = (FP.i2d e1) := ⟨_, rfl⟩
    refine own_S (T' := s₁) (mkF m 31 #[iv sl, iv a1, iv b1, iv c1, iv d1, iv e1, .val (.int 0), .val (.int 1), .val (.double g1), .second, .val (.double s1), .second, .val (.double l1), .second, .val (.double g2), .second, .unset, .unset, .unset, .unset, .unset, .unset] [(.double s2)]) (fun _ k => by subst h_s2; exact k) ?_
    have n_s2 : NoNaN64 s2 := by rw [h_s2]; exact (i2d_fin _).noNaN
    refine own_S (mkF m 33 #[iv sl, iv a1, iv b1, iv c1, iv d1, iv e1, .val (.int 0), .val (.int 1), .val (.double g1), .second, .val (.double s1), .second, .val (.double l1), .second, .val (.double g2), .second, .val (.double s2), .second, .unset, .unset, .unset, .unset] []) (fun _ k => XS.dstore X0.here hx rfl (hb hby at_31) rfl (l' := #[iv sl, iv a1, iv b1, iv c1, iv d1, iv e1, .val (.int 0), .val (.int 1), .val (.double g1), .second, .val (.double s1), .second, .val (.double l1), .second, .val (.double g2), .second, .val (.double s2), .second, .unset, .unset, .unset, .unset]) rfl k) ?_
    refine own_S (mkF m 34 #[iv sl, iv a1, iv b1, iv c1, iv d1, iv e1, .val (.int 0), .val (.int 1), .val (.double g1), .second, .val (.double s1), .second, .val (.double l1), .second, .val (.double g2), .second, .val (.double s2), .second, .unset, .unset, .unset, .unset] [(.int sl)]) (fun _ k => XS.iloadN X0.here hx rfl (hb hby at_33) rfl k) ?_
    refine own_S (mkF m 35 #[iv sl, iv a1, iv b1, iv c1, iv d1, iv e1, .val (.int 0), .val (.int 1), .val (.double g1), .second, .val (.double s1), .second, .val (.double l1), .second, .val (.double g2), .second, .val (.double s2), .second, .unset, .unset, .unset, .unset] [(.int 1), (.int sl)]) (fun _ k => XS.iconst X0.here hx rfl (hb hby at_34) k) ?_
    refine own_S (mkF m 36 #[iv sl, iv a1, iv b1, iv c1, iv d1, iv e1, .val (.int 0), .val (.int 1), .val (.double g1), .second, .val (.double s1), .second, .val (.double l1), .second, .val (.double g2), .second, .val (.double s2), .second, .unset, .unset, .unset, .unset] [(.int (sl >>> ((1 : Int32) &&& 31)))]) (fun _ k => XS.ishr X0.here hx rfl (hb hby at_35) rfl k) ?_
    refine own_S (mkF m 37 #[iv sl, iv a1, iv b1, iv c1, iv d1, iv e1, .val (.int 0), .val (.int 1), .val (.double g1), .second, .val (.double s1), .second, .val (.double l1), .second, .val (.double g2), .second, .val (.double s2), .second, .unset, .unset, .unset, .unset] [(.double (FP.i2d (sl >>> ((1 : Int32) &&& 31))))]) (fun _ k => XS.i2dS X0.here hx rfl (hb hby at_36) rfl rfl k) ?_
    obtain ⟨l2, h_l2⟩ : ∃ z : UInt64, z = (FP.i2d (sl >>> ((1 : Int32) &&& 31))) := ⟨_, rfl⟩
    refine own_S (T' := s₁) (mkF m 37 #[iv sl, iv a1, iv b1, iv c1, iv d1, iv e1, .val (.int 0), .val (.int 1), .val (.double g1), .second, .val (.double s1), .second, .val (.double l1), .second, .val (.double g2), .second, .val (.double s2), .second, .unset, .unset, .unset, .unset] [(.double l2)]) (fun _ k => by subst h_l2; exact k) ?_
    have n_l2 : NoNaN64 l2 := by rw [h_l2]; exact (i2d_fin _).noNaN
    have n_z : NoNaN64 (0 : UInt64) := own_nz
    have n_o : NoNaN64 FP.dconst1 := own_no
    refine own_S (mkF m 39 #[iv sl, iv a1, iv b1, iv c1, iv d1, iv e1, .val (.int 0), .val (.int 1), .val (.double g1), .second, .val (.double s1), .second, .val (.double l1), .second, .val (.double g2), .second, .val (.double s2), .second, .val (.double l2), .second, .unset, .unset] []) (fun _ k => XS.dstore X0.here hx rfl (hb hby at_37) rfl (l' := #[iv sl, iv a1, iv b1, iv c1, iv d1, iv e1, .val (.int 0), .val (.int 1), .val (.double g1), .second, .val (.double s1), .second, .val (.double l1), .second, .val (.double g2), .second, .val (.double s2), .second, .val (.double l2), .second, .unset, .unset]) rfl k) ?_
    obtain ⟨T3, h3, X3, e3, E3, A3, D3, -, st3⟩ := newO X0 hx hZ hown (own_g hw (i := 0) rfl) (own_g hw (i := 1) rfl) (own_g hw (i := 2) rfl) e0 (g := (mkF m 39 #[iv sl, iv a1, iv b1, iv c1, iv d1, iv e1, .val (.int 0), .val (.int 1), .val (.double g1), .second, .val (.double s1), .second, .val (.double l1), .second, .val (.double g2), .second, .val (.double s2), .second, .val (.double l2), .second, .unset, .unset] [])) rfl (hb hby at_39) (by decide) (by decide)
    obtain ⟨pa, g3⟩ : ∃ z, z = h0.size := ⟨_, rfl⟩
    rw [← g3] at A3 D3 st3
    have ge_pa : n0 ≤ pa := Nat.le_trans Z0 (Nat.le_of_eq g3.symm)
    have Z3 : n0 ≤ h3.size := Nat.le_trans Z0 E3.1
    have F4 : Fld Z h3 pa "com/example/accrue/accrue/exact/Paths" "gathered" "[D" .null := D3 (Or.inl (own_g hw (i := 11) rfl)) (ty := (.array .double)) (by decide)
    have F5 : Fld Z h3 pa "com/example/accrue/accrue/exact/Paths" "staying" "[D" .null := D3 (Or.inl (own_g hw (i := 13) rfl)) (ty := (.array .double)) (by decide)
    have F6 : Fld Z h3 pa "com/example/accrue/accrue/exact/Paths" "leaving" "[D" .null := D3 (Or.inl (own_g hw (i := 15) rfl)) (ty := (.array .double)) (by decide)
    have F7 : Fld Z h3 pa "com/example/accrue/accrue/exact/Paths" "nextGathered" "[D" .null := D3 (Or.inl (own_g hw (i := 30) rfl)) (ty := (.array .double)) (by decide)
    have F8 : Fld Z h3 pa "com/example/accrue/accrue/exact/Paths" "nextStaying" "[D" .null := D3 (Or.inl (own_g hw (i := 32) rfl)) (ty := (.array .double)) (by decide)
    have F9 : Fld Z h3 pa "com/example/accrue/accrue/exact/Paths" "nextLeaving" "[D" .null := D3 (Or.inl (own_g hw (i := 34) rfl)) (ty := (.array .double)) (by decide)
    refine own_S (mkF m 42 #[iv sl, iv a1, iv b1, iv c1, iv d1, iv e1, .val (.int 0), .val (.int 1), .val (.double g1), .second, .val (.double s1), .second, .val (.double l1), .second, .val (.double g2), .second, .val (.double s2), .second, .val (.double l2), .second, .unset, .unset] [(.ref pa)]) st3 ?_
    refine own_S (mkF m 43 #[iv sl, iv a1, iv b1, iv c1, iv d1, iv e1, .val (.int 0), .val (.int 1), .val (.double g1), .second, .val (.double s1), .second, .val (.double l1), .second, .val (.double g2), .second, .val (.double s2), .second, .val (.double l2), .second, .unset, .unset] [(.ref pa), (.ref pa)]) (fun _ k => XS.dup X3.here hx rfl (hb hby at_42) rfl rfl k) ?_
    refine own_S (mkF m 44 #[iv sl, iv a1, iv b1, iv c1, iv d1, iv e1, .val (.int 0), .val (.int 1), .val (.double g1), .second, .val (.double s1), .second, .val (.double l1), .second, .val (.double g2), .second, .val (.double s2), .second, .val (.double l2), .second, .unset, .unset] [(.int 2), (.ref pa), (.ref pa)]) (fun _ k => XS.iconst X3.here hx rfl (hb hby at_43) k) ?_
    obtain ⟨_, _, ⟨T10, L10, k10, n10⟩, -, X10, ⟨Lc10, hQ10, l10, y10, z10⟩, st10⟩ := X3.specialBack hx (y := own_y1) rfl hown (mvT hZ (own_g hw (i := 3) rfl)) (mvT hZ (own_g hw (i := 4) rfl)) (mvT hZ (own_g hw (i := 5) rfl)) (by decide) (backOf (W := 1) (own_rmini l Z a0 hw [] (pa) h3 n0 Z3 A3 F4 F5 F6 F7 F8 F9 ge_pa) hZ (own_g hw (i := 5) rfl) (own_g hw (i := 2) rfl) (by decide) (by decide)) (g := (mkF m 44 #[iv sl, iv a1, iv b1, iv c1, iv d1, iv e1, .val (.int 0), .val (.int 1), .val (.double g1), .second, .val (.double s1), .second, .val (.double l1), .second, .val (.double g2), .second, .val (.double s2), .second, .val (.double l2), .second, .unset, .unset] [(.int 2), (.ref pa), (.ref pa)])) rfl (by rw [hml]; rfl) (Steps.refl _) (a := pa) (argsL := [(.int 2)]) (rest := [(.ref pa)]) (lenOf own_pd__I_V rfl) rfl (by show 2 * 0 + _ ≤ _; exact Nat.le_of_eq rfl) (hb hby at_44) (fun _ _ => ⟨rfl, e3, (by decide : 1 + 6 ≤ _), (by decide : 6 + 12 ≤ _)⟩)
    dsimp only [Pt.U, Pt.locs, Pt.cells, Pt.slots] at X10 l10 y10 z10 st10 hQ10
    subst l10 y10 z10
    obtain ⟨ga, sa, la, ng, ns, nl, k0, k1, k2, k3, k4, k5, rfl, N10q, K10q, F11, F12, F13, F14, F15, F16, F17, F18, F19, F20, F21, F22, F23, pp24, pp25, pp26, pp27, pp28, pp29, pp30, pp31, pp32, pp33, pp34, pp35, pp36, pp37, pp38, pp39, pp40, pp41, pp42, pp43, pp44⟩ := hQ10
    have N10 := Fr.app N0 N10q
    refine own_S (mkF m 47 #[iv sl, iv a1, iv b1, iv c1, iv d1, iv e1, .val (.int 0), .val (.int 1), .val (.double g1), .second, .val (.double s1), .second, .val (.double l1), .second, .val (.double g2), .second, .val (.double s2), .second, .val (.double l2), .second, .unset, .unset] [(.ref pa)]) (fun _ k => st10.trans k) ?_
    have n45 : pa ≠ ga := Nat.ne_of_lt (Nat.lt_of_lt_of_le A3.lt pp24)
    have ge_ga : n0 ≤ ga := Nat.le_trans Z3 pp24
    have n46 : pa ≠ sa := Nat.ne_of_lt (Nat.lt_of_lt_of_le A3.lt pp25)
    have ge_sa : n0 ≤ sa := Nat.le_trans Z3 pp25
    have n47 : pa ≠ la := Nat.ne_of_lt (Nat.lt_of_lt_of_le A3.lt pp26)
    have ge_la : n0 ≤ la := Nat.le_trans Z3 pp26
    have n48 : pa ≠ ng := Nat.ne_of_lt (Nat.lt_of_lt_of_le A3.lt pp27)
    have ge_ng : n0 ≤ ng := Nat.le_trans Z3 pp27
    have n49 : pa ≠ ns := Nat.ne_of_lt (Nat.lt_of_lt_of_le A3.lt pp28)
    have ge_ns : n0 ≤ ns := Nat.le_trans Z3 pp28
    have n50 : pa ≠ nl := Nat.ne_of_lt (Nat.lt_of_lt_of_le A3.lt pp29)
    have ge_nl : n0 ≤ nl := Nat.le_trans Z3 pp29
    have Z10 : n0 ≤ T10.heap.size := Nat.le_trans Z3 K10q.1
    refine own_S (mkF m 49 #[iv sl, iv a1, iv b1, iv c1, iv d1, iv e1, .val (.int 0), .val (.int 1), .val (.double g1), .second, .val (.double s1), .second, .val (.double l1), .second, .val (.double g2), .second, .val (.double s2), .second, .val (.double l2), .second, rv pa, .unset] []) (fun _ k => XS.astore X10.here hx rfl (hb hby at_47) rfl rfl (l' := #[iv sl, iv a1, iv b1, iv c1, iv d1, iv e1, .val (.int 0), .val (.int 1), .val (.double g1), .second, .val (.double s1), .second, .val (.double l1), .second, .val (.double g2), .second, .val (.double s2), .second, .val (.double l2), .second, rv pa, .unset]) rfl k) ?_
    refine own_S (mkF m 51 #[iv sl, iv a1, iv b1, iv c1, iv d1, iv e1, .val (.int 0), .val (.int 1), .val (.double g1), .second, .val (.double s1), .second, .val (.double l1), .second, .val (.double g2), .second, .val (.double s2), .second, .val (.double l2), .second, rv pa, .unset] [(.ref pa)]) (fun _ k => XS.aload X10.here hx rfl (hb hby at_49) rfl rfl k) ?_
    refine own_S (mkF m 53 #[iv sl, iv a1, iv b1, iv c1, iv d1, iv e1, .val (.int 0), .val (.int 1), .val (.double g1), .second, .val (.double s1), .second, .val (.double l1), .second, .val (.double g2), .second, .val (.double s2), .second, .val (.double l2), .second, rv pa, .unset] [(.int 0), (.ref pa)]) (fun _ k => XS.iload X10.here hx rfl (hb hby at_51) rfl k) ?_
    refine own_S (mkF m 55 #[iv sl, iv a1, iv b1, iv c1, iv d1, iv e1, .val (.int 0), .val (.int 1), .val (.double g1), .second, .val (.double s1), .second, .val (.double l1), .second, .val (.double g2), .second, .val (.double s2), .second, .val (.double l2), .second, rv pa, .unset] [(.double g1), (.int 0), (.ref pa)]) (fun _ k => XS.dload X10.here hx rfl (hb hby at_53) rfl k) ?_
    refine own_S (mkF m 57 #[iv sl, iv a1, iv b1, iv c1, iv d1, iv e1, .val (.int 0), .val (.int 1), .val (.double g1), .second, .val (.double s1), .second, .val (.double l1), .second, .val (.double g2), .second, .val (.double s2), .second, .val (.double l2), .second, rv pa, .unset] [(.double s1), (.double g1), (.int 0), (.ref pa)]) (fun _ k => XS.dload X10.here hx rfl (hb hby at_55) rfl k) ?_
    refine own_S (mkF m 59 #[iv sl, iv a1, iv b1, iv c1, iv d1, iv e1, .val (.int 0), .val (.int 1), .val (.double g1), .second, .val (.double s1), .second, .val (.double l1), .second, .val (.double g2), .second, .val (.double s2), .second, .val (.double l2), .second, rv pa, .unset] [(.double l1), (.double s1), (.double g1), (.int 0), (.ref pa)]) (fun _ k => XS.dload X10.here hx rfl (hb hby at_57) rfl k) ?_
    obtain ⟨cq51, kq51, q51a, q51b, q51c⟩ := isOf hZ rfl F11
    obtain ⟨_, _, ⟨T51, L51, k51, n51⟩, -, X51, ⟨Lc51, hQ51, l51, y51, z51⟩, st51⟩ := X10.virtualBack hx (y := own_y2) (z := own_y2) hown (mvT hZ (own_g hw (i := 35) rfl)) (mvT hZ (own_g hw (i := 36) rfl)) (notFace_of_selects (args := #[]) (mvT hZ (own_g hw (i := 38) rfl))) (mvT hZ (own_g hw (i := 38) rfl)) (mvT hZ (own_g hw (i := 37) rfl)) (by decide) (backOf (W := 0) (own_rmsn0 l Z a0 hw [] (pa) (ng) (ns) (nl) (k3) (k4) (k5) (g1) (s1) (l1) ((.double (0 : UInt64))) ((.double (0 : UInt64))) ((.double FP.dconst1)) ((.double (0 : UInt64))) ((.double (0 : UInt64))) ((.double FP.dconst1)) T10.heap n0 Z10 F15 F16 F17 F21 F22 F23 ge_ng ge_ns ge_nl n48 n49 n50 pp42 pp43 pp44) hZ (own_g hw (i := 39) rfl) (own_g hw (i := 2) rfl) (by decide) (by decide)) q51a q51c (g := (mkF m 59 #[iv sl, iv a1, iv b1, iv c1, iv d1, iv e1, .val (.int 0), .val (.int 1), .val (.double g1), .second, .val (.double s1), .second, .val (.double l1), .second, .val (.double g2), .second, .val (.double s2), .second, .val (.double l2), .second, rv pa, .unset] [(.double l1), (.double s1), (.double g1), (.int 0), (.ref pa)])) rfl (by rw [hml]; rfl) (Steps.refl _) (argsL := [(.int 0), (.double g1), (.double s1), (.double l1)]) (rest := []) (lenOf own_pd__IDDD_V rfl) rfl (by show 2 * 0 + _ ≤ _; exact Nat.le_of_eq rfl) (hb hby at_59) (fun _ _ => ⟨rfl, rfl, (by decide : 7 + 0 ≤ _), (by decide : 18 + 0 ≤ _)⟩)
    dsimp only [Pt.U, Pt.locs, Pt.cells, Pt.slots] at X51 l51 y51 z51 st51 hQ51
    subst l51 y51 z51
    obtain ⟨rfl, N51q, K51q, F52, F53, F54⟩ := hQ51
    have N51 := Fr.app N10 N51q
    refine own_S (mkF m 62 #[iv sl, iv a1, iv b1, iv c1, iv d1, iv e1, .val (.int 0), .val (.int 1), .val (.double g1), .second, .val (.double s1), .second, .val (.double l1), .second, .val (.double g2), .second, .val (.double s2), .second, .val (.double l2), .second, rv pa, .unset] []) (fun _ k => st51.trans k) ?_
    have F55 := F11.keep K51q
    have F56 := F12.keep K51q (ninS n48 (ninS n49 (ninS n50 nin0)))
    have F57 := F13.keep K51q (ninS n48 (ninS n49 (ninS n50 nin0)))
    have F58 := F14.keep K51q (ninS n48 (ninS n49 (ninS n50 nin0)))
    have F59 := F15.keep K51q (ninS n48 (ninS n49 (ninS n50 nin0)))
    have F60 := F16.keep K51q (ninS n48 (ninS n49 (ninS n50 nin0)))
    have F61 := F17.keep K51q (ninS n48 (ninS n49 (ninS n50 nin0)))
    have F62 := F18.keep K51q (ninS pp32 (ninS pp33 (ninS pp34 nin0)))
    have F63 := F19.keep K51q (ninS pp36 (ninS pp37 (ninS pp38 nin0)))
    have F64 := F20.keep K51q (ninS pp39 (ninS pp40 (ninS pp41 nin0)))
    have Z51 : n0 ≤ T51.heap.size := Nat.le_trans Z10 K51q.1
    refine own_S (mkF m 64 #[iv sl, iv a1, iv b1, iv c1, iv d1, iv e1, .val (.int 0), .val (.int 1), .val (.double g1), .second, .val (.double s1), .second, .val (.double l1), .second, .val (.double g2), .second, .val (.double s2), .second, .val (.double l2), .second, rv pa, .unset] [(.ref pa)]) (fun _ k => XS.aload X51.here hx rfl (hb hby at_62) rfl rfl k) ?_
    obtain ⟨cq65, kq65, q65a, q65b, q65c⟩ := isOf hZ rfl F55
    obtain ⟨_, _, ⟨T65, L65, k65, n65⟩, -, X65, ⟨Lc65, hQ65, l65, y65, z65⟩, st65⟩ := X51.virtualBack hx (y := own_y4) (z := own_y4) hown (mvT hZ (own_g hw (i := 40) rfl)) (mvT hZ (own_g hw (i := 41) rfl)) (notFace_of_selects (args := #[]) (mvT hZ (own_g hw (i := 43) rfl))) (mvT hZ (own_g hw (i := 43) rfl)) (mvT hZ (own_g hw (i := 42) rfl)) (by decide) (backOf (W := 0) (own_rmadv l Z a0 hw [] (pa) (ga) (sa) (la) (ng) (ns) (nl) T51.heap n0 Z51 F55 F56 F57 F58 F59 F60 F61 ge_pa) hZ (own_g hw (i := 44) rfl) (own_g hw (i := 2) rfl) (by decide) (by decide)) q65a q65c (g := (mkF m 64 #[iv sl, iv a1, iv b1, iv c1, iv d1, iv e1, .val (.int 0), .val (.int 1), .val (.double g1), .second, .val (.double s1), .second, .val (.double l1), .second, .val (.double g2), .second, .val (.double s2), .second, .val (.double l2), .second, rv pa, .unset] [(.ref pa)])) rfl (by rw [hml]; rfl) (Steps.refl _) (argsL := []) (rest := []) (lenOf own_pd___V rfl) rfl (by show 2 * 0 + _ ≤ _; exact Nat.le_of_eq rfl) (hb hby at_64) (fun _ _ => ⟨rfl, rfl, (by decide : 7 + 0 ≤ _), (by decide : 18 + 0 ≤ _)⟩)
    dsimp only [Pt.U, Pt.locs, Pt.cells, Pt.slots] at X65 l65 y65 z65 st65 hQ65
    subst l65 y65 z65
    obtain ⟨rfl, N65q, K65q, F66, F67, F68, F69, F70, F71, F72⟩ := hQ65
    have N65 := Fr.app N51 N65q
    refine own_S (mkF m 67 #[iv sl, iv a1, iv b1, iv c1, iv d1, iv e1, .val (.int 0), .val (.int 1), .val (.double g1), .second, .val (.double s1), .second, .val (.double l1), .second, .val (.double g2), .second, .val (.double s2), .second, .val (.double l2), .second, rv pa, .unset] []) (fun _ k => st65.trans k) ?_
    have F73 := F62.keep K65q (ninS (Ne.symm n45) nin0)
    have F74 := F63.keep K65q (ninS (Ne.symm n46) nin0)
    have F75 := F64.keep K65q (ninS (Ne.symm n47) nin0)
    have F76 := F52.keep K65q (ninS (Ne.symm n48) nin0)
    have F77 := F53.keep K65q (ninS (Ne.symm n49) nin0)
    have F78 := F54.keep K65q (ninS (Ne.symm n50) nin0)
    have Z65 : n0 ≤ T65.heap.size := Nat.le_trans Z51 K65q.1
    refine own_S (mkF m 69 #[iv sl, iv a1, iv b1, iv c1, iv d1, iv e1, .val (.int 0), .val (.int 1), .val (.double g1), .second, .val (.double s1), .second, .val (.double l1), .second, .val (.double g2), .second, .val (.double s2), .second, .val (.double l2), .second, rv pa, .unset] [(.ref pa)]) (fun _ k => XS.aload X65.here hx rfl (hb hby at_67) rfl rfl k) ?_
    refine own_S (mkF m 71 #[iv sl, iv a1, iv b1, iv c1, iv d1, iv e1, .val (.int 0), .val (.int 1), .val (.double g1), .second, .val (.double s1), .second, .val (.double l1), .second, .val (.double g2), .second, .val (.double s2), .second, .val (.double l2), .second, rv pa, .unset] [(.int 0), (.ref pa)]) (fun _ k => XS.iload X65.here hx rfl (hb hby at_69) rfl k) ?_
    refine own_S (mkF m 73 #[iv sl, iv a1, iv b1, iv c1, iv d1, iv e1, .val (.int 0), .val (.int 1), .val (.double g1), .second, .val (.double s1), .second, .val (.double l1), .second, .val (.double g2), .second, .val (.double s2), .second, .val (.double l2), .second, rv pa, .unset] [(.double g1), (.int 0), (.ref pa)]) (fun _ k => XS.dload X65.here hx rfl (hb hby at_71) rfl k) ?_
    refine own_S (mkF m 75 #[iv sl, iv a1, iv b1, iv c1, iv d1, iv e1, .val (.int 0), .val (.int 1), .val (.double g1), .second, .val (.double s1), .second, .val (.double l1), .second, .val (.double g2), .second, .val (.double s2), .second, .val (.double l2), .second, rv pa, .unset] [(.double s1), (.double g1), (.int 0), (.ref pa)]) (fun _ k => XS.dload X65.here hx rfl (hb hby at_73) rfl k) ?_
    refine own_S (mkF m 77 #[iv sl, iv a1, iv b1, iv c1, iv d1, iv e1, .val (.int 0), .val (.int 1), .val (.double g1), .second, .val (.double s1), .second, .val (.double l1), .second, .val (.double g2), .second, .val (.double s2), .second, .val (.double l2), .second, rv pa, .unset] [(.double l1), (.double s1), (.double g1), (.int 0), (.ref pa)]) (fun _ k => XS.dload X65.here hx rfl (hb hby at_75) rfl k) ?_
    obtain ⟨_, _, ⟨T79, L79, k79, n79⟩, -, X79, ⟨Lc79, hQ79, l79, y79, z79⟩, st79⟩ := Jvm.LawKit.callS X65 hx (y := own_y3) hown (mvT hZ (own_g hw (i := 45) rfl)) (mvT hZ (own_g hw (i := 46) rfl)) (mvT hZ (own_g hw (i := 47) rfl)) (mvT hZ (own_g hw (i := 48) rfl)) (by decide) (backOf (W := 0) (own_rmis0 l Z a0 hw [] (pa) (ng) (ns) (nl) (k3) (k4) (k5) (g1) (s1) (l1) ((.double (0 : UInt64))) ((.double (0 : UInt64))) ((.double FP.dconst1)) T65.heap n0 Z65 F67 F68 F69 F76 F77 F78 n_g1 n_s1 n_l1) hZ (own_g hw (i := 48) rfl) (own_g hw (i := 47) rfl) (by decide) (by decide)) (g := (mkF m 77 #[iv sl, iv a1, iv b1, iv c1, iv d1, iv e1, .val (.int 0), .val (.int 1), .val (.double g1), .second, .val (.double s1), .second, .val (.double l1), .second, .val (.double g2), .second, .val (.double s2), .second, .val (.double l2), .second, rv pa, .unset] [(.double l1), (.double s1), (.double g1), (.int 0), (.ref pa)])) rfl (by rw [hml]; rfl) (argsL := [(.ref pa), (.int 0), (.double g1), (.double s1), (.double l1)]) (rest := []) (lenOf own_pd__Lcom_example_accrue_accrue_exact_Paths_IDDD_Z rfl) rfl (by show 2 * 0 + _ ≤ _; exact Nat.le_of_eq rfl) (hb hby at_77) (fun _ _ => ⟨rfl, rfl, (by decide : 7 + 0 ≤ _), (by decide : 18 + 0 ≤ _)⟩)
    dsimp only [Pt.U, Pt.locs, Pt.cells, Pt.slots] at X79 l79 y79 z79 st79 hQ79
    subst l79 y79 z79
    obtain ⟨rfl, N79q, e79⟩ := hQ79
    have N79 := Fr.app N65 N79q
    refine own_S (mkF m 80 #[iv sl, iv a1, iv b1, iv c1, iv d1, iv e1, .val (.int 0), .val (.int 1), .val (.double g1), .second, .val (.double s1), .second, .val (.double l1), .second, .val (.double g2), .second, .val (.double s2), .second, .val (.double l2), .second, rv pa, .unset] [(.int 1)]) (fun _ k => st79 _ k) ?_
    have hc80 : ¬ ((1 : Int32) = (0 : Int32)) := by decide
    refine own_S (mkF m 83 #[iv sl, iv a1, iv b1, iv c1, iv d1, iv e1, .val (.int 0), .val (.int 1), .val (.double g1), .second, .val (.double s1), .second, .val (.double l1), .second, .val (.double g2), .second, .val (.double s2), .second, .val (.double l2), .second, rv pa, .unset] []) (fun _ k => XS.ifNo X79.here hx rfl (hb hby at_80) rfl ((if0 _ _).trans (feq hc80).1) k) ?_
    refine own_S (mkF m 85 #[iv sl, iv a1, iv b1, iv c1, iv d1, iv e1, .val (.int 0), .val (.int 1), .val (.double g1), .second, .val (.double s1), .second, .val (.double l1), .second, .val (.double g2), .second, .val (.double s2), .second, .val (.double l2), .second, rv pa, .unset] [(.ref pa)]) (fun _ k => XS.aload X79.here hx rfl (hb hby at_83) rfl rfl k) ?_
    refine own_S (mkF m 87 #[iv sl, iv a1, iv b1, iv c1, iv d1, iv e1, .val (.int 0), .val (.int 1), .val (.double g1), .second, .val (.double s1), .second, .val (.double l1), .second, .val (.double g2), .second, .val (.double s2), .second, .val (.double l2), .second, rv pa, .unset] [(.int 1), (.ref pa)]) (fun _ k => XS.iload X79.here hx rfl (hb hby at_85) rfl k) ?_
    refine own_S (mkF m 88 #[iv sl, iv a1, iv b1, iv c1, iv d1, iv e1, .val (.int 0), .val (.int 1), .val (.double g1), .second, .val (.double s1), .second, .val (.double l1), .second, .val (.double g2), .second, .val (.double s2), .second, .val (.double l2), .second, rv pa, .unset] [(.double (0 : UInt64)), (.int 1), (.ref pa)]) (fun _ k => XS.dconst0 X79.here hx rfl (hb hby at_87) rfl k) ?_
    refine own_S (mkF m 89 #[iv sl, iv a1, iv b1, iv c1, iv d1, iv e1, .val (.int 0), .val (.int 1), .val (.double g1), .second, .val (.double s1), .second, .val (.double l1), .second, .val (.double g2), .second, .val (.double s2), .second, .val (.double l2), .second, rv pa, .unset] [(.double (0 : UInt64)), (.double (0 : UInt64)), (.int 1), (.ref pa)]) (fun _ k => XS.dconst0 X79.here hx rfl (hb hby at_88) rfl k) ?_
    refine own_S (mkF m 90 #[iv sl, iv a1, iv b1, iv c1, iv d1, iv e1, .val (.int 0), .val (.int 1), .val (.double g1), .second, .val (.double s1), .second, .val (.double l1), .second, .val (.double g2), .second, .val (.double s2), .second, .val (.double l2), .second, rv pa, .unset] [(.double FP.dconst1), (.double (0 : UInt64)), (.double (0 : UInt64)), (.int 1), (.ref pa)]) (fun _ k => XS.dconst1 X79.here hx rfl (hb hby at_89) rfl k) ?_
    obtain ⟨_, _, ⟨T81, L81, k81, n81⟩, -, X81, ⟨Lc81, hQ81, l81, y81, z81⟩, st81⟩ := Jvm.LawKit.callS X79 hx (y := own_y3) hown (mvT hZ (own_g hw (i := 45) rfl)) (mvT hZ (own_g hw (i := 46) rfl)) (mvT hZ (own_g hw (i := 47) rfl)) (mvT hZ (own_g hw (i := 48) rfl)) (by decide) (backOf (W := 0) (own_rmis1 l Z a0 hw [] (pa) (ng) (ns) (nl) (k3) (k4) (k5) ((0 : UInt64)) ((0 : UInt64)) (FP.dconst1) ((.double g1)) ((.double s1)) ((.double l1)) T65.heap n0 Z65 F67 F68 F69 F76 F77 F78 n_z n_z n_o) hZ (own_g hw (i := 48) rfl) (own_g hw (i := 47) rfl) (by decide) (by decide)) (g := (mkF m 90 #[iv sl, iv a1, iv b1, iv c1, iv d1, iv e1, .val (.int 0), .val (.int 1), .val (.double g1), .second, .val (.double s1), .second, .val (.double l1), .second, .val (.double g2), .second, .val (.double s2), .second, .val (.double l2), .second, rv pa, .unset] [(.double FP.dconst1), (.double (0 : UInt64)), (.double (0 : UInt64)), (.int 1), (.ref pa)])) rfl (by rw [hml]; rfl) (argsL := [(.ref pa), (.int 1), (.double (0 : UInt64)), (.double (0 : UInt64)), (.double FP.dconst1)]) (rest := []) (lenOf own_pd__Lcom_example_accrue_accrue_exact_Paths_IDDD_Z rfl) rfl (by show 2 * 0 + _ ≤ _; exact Nat.le_of_eq rfl) (hb hby at_90) (fun _ _ => ⟨rfl, e79, (by decide : 7 + 0 ≤ _), (by decide : 18 + 0 ≤ _)⟩)
    dsimp only [Pt.U, Pt.locs, Pt.cells, Pt.slots] at X81 l81 y81 z81 st81 hQ81
    subst l81 y81 z81
    obtain ⟨rfl, N81q, e81⟩ := hQ81
    have N81 := Fr.app N79 N81q
    refine own_S (mkF m 93 #[iv sl, iv a1, iv b1, iv c1, iv d1, iv e1, .val (.int 0), .val (.int 1), .val (.double g1), .second, .val (.double s1), .second, .val (.double l1), .second, .val (.double g2), .second, .val (.double s2), .second, .val (.double l2), .second, rv pa, .unset] [(.int 1)]) (fun _ k => st81 _ k) ?_
    have hc82 : ¬ ((1 : Int32) = (0 : Int32)) := by decide
    refine own_S (mkF m 96 #[iv sl, iv a1, iv b1, iv c1, iv d1, iv e1, .val (.int 0), .val (.int 1), .val (.double g1), .second, .val (.double s1), .second, .val (.double l1), .second, .val (.double g2), .second, .val (.double s2), .second, .val (.double l2), .second, rv pa, .unset] []) (fun _ k => XS.ifNo X81.here hx rfl (hb hby at_93) rfl ((if0 _ _).trans (feq hc82).1) k) ?_
    refine own_S (mkF m 97 #[iv sl, iv a1, iv b1, iv c1, iv d1, iv e1, .val (.int 0), .val (.int 1), .val (.double g1), .second, .val (.double s1), .second, .val (.double l1), .second, .val (.double g2), .second, .val (.double s2), .second, .val (.double l2), .second, rv pa, .unset] [(.int 1)]) (fun _ k => XS.iconst X81.here hx rfl (hb hby at_96) k) ?_
    refine own_S (mkF m 101 #[iv sl, iv a1, iv b1, iv c1, iv d1, iv e1, .val (.int 0), .val (.int 1), .val (.double g1), .second, .val (.double s1), .second, .val (.double l1), .second, .val (.double g2), .second, .val (.double s2), .second, .val (.double l2), .second, rv pa, .unset] [(.int 1)]) (fun _ k => XS.goto X81.here hx rfl (pc0 := 97) (pc' := 101) rfl (hb hby at_97) (by decide) (by decide) k) ?_
    refine own_S (mkF m 103 #[iv sl, iv a1, iv b1, iv c1, iv d1, iv e1, .val (.int 0), .val (.int 1), .val (.double g1), .second, .val (.double s1), .second, .val (.double l1), .second, .val (.double g2), .second, .val (.double s2), .second, .val (.double l2), .second, rv pa, .val (.int 1)] []) (fun _ k => XS.istore X81.here hx rfl (hb hby at_101) rfl (l' := #[iv sl, iv a1, iv b1, iv c1, iv d1, iv e1, .val (.int 0), .val (.int 1), .val (.double g1), .second, .val (.double s1), .second, .val (.double l1), .second, .val (.double g2), .second, .val (.double s2), .second, .val (.double l2), .second, rv pa, .val (.int 1)]) rfl k) ?_
    refine own_S (mkF m 105 #[iv sl, iv a1, iv b1, iv c1, iv d1, iv e1, .val (.int 0), .val (.int 1), .val (.double g1), .second, .val (.double s1), .second, .val (.double l1), .second, .val (.double g2), .second, .val (.double s2), .second, .val (.double l2), .second, rv pa, .val (.int 1)] [(.ref pa)]) (fun _ k => XS.aload X81.here hx rfl (hb hby at_103) rfl rfl k) ?_
    refine own_S (mkF m 107 #[iv sl, iv a1, iv b1, iv c1, iv d1, iv e1, .val (.int 0), .val (.int 1), .val (.double g1), .second, .val (.double s1), .second, .val (.double l1), .second, .val (.double g2), .second, .val (.double s2), .second, .val (.double l2), .second, rv pa, .val (.int 1)] [(.int 0), (.ref pa)]) (fun _ k => XS.iload X81.here hx rfl (hb hby at_105) rfl k) ?_
    refine own_S (mkF m 109 #[iv sl, iv a1, iv b1, iv c1, iv d1, iv e1, .val (.int 0), .val (.int 1), .val (.double g1), .second, .val (.double s1), .second, .val (.double l1), .second, .val (.double g2), .second, .val (.double s2), .second, .val (.double l2), .second, rv pa, .val (.int 1)] [(.double g2), (.int 0), (.ref pa)]) (fun _ k => XS.dload X81.here hx rfl (hb hby at_107) rfl k) ?_
    refine own_S (mkF m 111 #[iv sl, iv a1, iv b1, iv c1, iv d1, iv e1, .val (.int 0), .val (.int 1), .val (.double g1), .second, .val (.double s1), .second, .val (.double l1), .second, .val (.double g2), .second, .val (.double s2), .second, .val (.double l2), .second, rv pa, .val (.int 1)] [(.double s2), (.double g2), (.int 0), (.ref pa)]) (fun _ k => XS.dload X81.here hx rfl (hb hby at_109) rfl k) ?_
    refine own_S (mkF m 113 #[iv sl, iv a1, iv b1, iv c1, iv d1, iv e1, .val (.int 0), .val (.int 1), .val (.double g1), .second, .val (.double s1), .second, .val (.double l1), .second, .val (.double g2), .second, .val (.double s2), .second, .val (.double l2), .second, rv pa, .val (.int 1)] [(.double l2), (.double s2), (.double g2), (.int 0), (.ref pa)]) (fun _ k => XS.dload X81.here hx rfl (hb hby at_111) rfl k) ?_
    obtain ⟨cq83, kq83, q83a, q83b, q83c⟩ := isOf hZ e81 F66
    obtain ⟨_, _, ⟨T83, L83, k83, n83⟩, -, X83, ⟨Lc83, hQ83, l83, y83, z83⟩, st83⟩ := X81.virtualBack hx (y := own_y2) (z := own_y2) hown (mvT hZ (own_g hw (i := 35) rfl)) (mvT hZ (own_g hw (i := 36) rfl)) (notFace_of_selects (args := #[]) (mvT hZ (own_g hw (i := 38) rfl))) (mvT hZ (own_g hw (i := 38) rfl)) (mvT hZ (own_g hw (i := 37) rfl)) (by decide) (backOf (W := 0) (own_rmsn0 l Z a0 hw [] (pa) (ga) (sa) (la) (k0) (k1) (k2) (g2) (s2) (l2) ((.double (0 : UInt64))) ((.double (0 : UInt64))) ((.double FP.dconst1)) ((.double (0 : UInt64))) ((.double (0 : UInt64))) ((.double FP.dconst1)) T65.heap n0 Z65 F70 F71 F72 F73 F74 F75 ge_ga ge_sa ge_la n45 n46 n47 pp30 pp31 pp35) hZ (own_g hw (i := 39) rfl) (own_g hw (i := 2) rfl) (by decide) (by decide)) q83a q83c (g := (mkF m 113 #[iv sl, iv a1, iv b1, iv c1, iv d1, iv e1, .val (.int 0), .val (.int 1), .val (.double g1), .second, .val (.double s1), .second, .val (.double l1), .second, .val (.double g2), .second, .val (.double s2), .second, .val (.double l2), .second, rv pa, .val (.int 1)] [(.double l2), (.double s2), (.double g2), (.int 0), (.ref pa)])) rfl (by rw [hml]; rfl) (Steps.refl _) (argsL := [(.int 0), (.double g2), (.double s2), (.double l2)]) (rest := []) (lenOf own_pd__IDDD_V rfl) rfl (by show 2 * 0 + _ ≤ _; exact Nat.le_of_eq rfl) (hb hby at_113) (fun _ _ => ⟨rfl, e81, (by decide : 7 + 0 ≤ _), (by decide : 18 + 0 ≤ _)⟩)
    dsimp only [Pt.U, Pt.locs, Pt.cells, Pt.slots] at X83 l83 y83 z83 st83 hQ83
    subst l83 y83 z83
    obtain ⟨rfl, N83q, K83q, F84, F85, F86⟩ := hQ83
    have N83 := Fr.app N81 N83q
    refine own_S (mkF m 116 #[iv sl, iv a1, iv b1, iv c1, iv d1, iv e1, .val (.int 0), .val (.int 1), .val (.double g1), .second, .val (.double s1), .second, .val (.double l1), .second, .val (.double g2), .second, .val (.double s2), .second, .val (.double l2), .second, rv pa, .val (.int 1)] []) (fun _ k => st83.trans k) ?_
    have F87 := F76.keep K83q (ninS (Ne.symm pp32) (ninS (Ne.symm pp36) (ninS (Ne.symm pp39) nin0)))
    have F88 := F77.keep K83q (ninS (Ne.symm pp33) (ninS (Ne.symm pp37) (ninS (Ne.symm pp40) nin0)))
    have F89 := F78.keep K83q (ninS (Ne.symm pp34) (ninS (Ne.symm pp38) (ninS (Ne.symm pp41) nin0)))
    have F90 := F66.keep K83q
    have F91 := F67.keep K83q (ninS n45 (ninS n46 (ninS n47 nin0)))
    have F92 := F68.keep K83q (ninS n45 (ninS n46 (ninS n47 nin0)))
    have F93 := F69.keep K83q (ninS n45 (ninS n46 (ninS n47 nin0)))
    have F94 := F70.keep K83q (ninS n45 (ninS n46 (ninS n47 nin0)))
    have F95 := F71.keep K83q (ninS n45 (ninS n46 (ninS n47 nin0)))
    have F96 := F72.keep K83q (ninS n45 (ninS n46 (ninS n47 nin0)))
    have Z83 : n0 ≤ T83.heap.size := Nat.le_trans Z65 K83q.1
    refine own_S (mkF m 118 #[iv sl, iv a1, iv b1, iv c1, iv d1, iv e1, .val (.int 0), .val (.int 1), .val (.double g1), .second, .val (.double s1), .second, .val (.double l1), .second, .val (.double g2), .second, .val (.double s2), .second, .val (.double l2), .second, rv pa, .val (.int 1)] [(.int 1)]) (fun _ k => XS.iload X83.here hx rfl (hb hby at_116) rfl k) ?_
    have hc97 : ¬ ((1 : Int32) = (0 : Int32)) := by decide
    refine own_S (mkF m 121 #[iv sl, iv a1, iv b1, iv c1, iv d1, iv e1, .val (.int 0), .val (.int 1), .val (.double g1), .second, .val (.double s1), .second, .val (.double l1), .second, .val (.double g2), .second, .val (.double s2), .second, .val (.double l2), .second, rv pa, .val (.int 1)] []) (fun _ k => XS.ifNo X83.here hx rfl (hb hby at_118) rfl ((if0 _ _).trans (feq hc97).1) k) ?_
    refine own_S (mkF m 123 #[iv sl, iv a1, iv b1, iv c1, iv d1, iv e1, .val (.int 0), .val (.int 1), .val (.double g1), .second, .val (.double s1), .second, .val (.double l1), .second, .val (.double g2), .second, .val (.double s2), .second, .val (.double l2), .second, rv pa, .val (.int 1)] [(.ref pa)]) (fun _ k => XS.aload X83.here hx rfl (hb hby at_121) rfl rfl k) ?_
    refine own_S (mkF m 125 #[iv sl, iv a1, iv b1, iv c1, iv d1, iv e1, .val (.int 0), .val (.int 1), .val (.double g1), .second, .val (.double s1), .second, .val (.double l1), .second, .val (.double g2), .second, .val (.double s2), .second, .val (.double l2), .second, rv pa, .val (.int 1)] [(.int 0), (.ref pa)]) (fun _ k => XS.iload X83.here hx rfl (hb hby at_123) rfl k) ?_
    refine own_S (mkF m 127 #[iv sl, iv a1, iv b1, iv c1, iv d1, iv e1, .val (.int 0), .val (.int 1), .val (.double g1), .second, .val (.double s1), .second, .val (.double l1), .second, .val (.double g2), .second, .val (.double s2), .second, .val (.double l2), .second, rv pa, .val (.int 1)] [(.double g1), (.int 0), (.ref pa)]) (fun _ k => XS.dload X83.here hx rfl (hb hby at_125) rfl k) ?_
    refine own_S (mkF m 129 #[iv sl, iv a1, iv b1, iv c1, iv d1, iv e1, .val (.int 0), .val (.int 1), .val (.double g1), .second, .val (.double s1), .second, .val (.double l1), .second, .val (.double g2), .second, .val (.double s2), .second, .val (.double l2), .second, rv pa, .val (.int 1)] [(.double s1), (.double g1), (.int 0), (.ref pa)]) (fun _ k => XS.dload X83.here hx rfl (hb hby at_127) rfl k) ?_
    refine own_S (mkF m 131 #[iv sl, iv a1, iv b1, iv c1, iv d1, iv e1, .val (.int 0), .val (.int 1), .val (.double g1), .second, .val (.double s1), .second, .val (.double l1), .second, .val (.double g2), .second, .val (.double s2), .second, .val (.double l2), .second, rv pa, .val (.int 1)] [(.double l1), (.double s1), (.double g1), (.int 0), (.ref pa)]) (fun _ k => XS.dload X83.here hx rfl (hb hby at_129) rfl k) ?_
    obtain ⟨_, _, ⟨T98, L98, k98, n98⟩, -, X98, ⟨Lc98, hQ98, l98, y98, z98⟩, st98⟩ := Jvm.LawKit.callS X83 hx (y := own_y3) hown (mvT hZ (own_g hw (i := 45) rfl)) (mvT hZ (own_g hw (i := 46) rfl)) (mvT hZ (own_g hw (i := 47) rfl)) (mvT hZ (own_g hw (i := 48) rfl)) (by decide) (backOf (W := 0) (own_rmis0 l Z a0 hw [] (pa) (ng) (ns) (nl) (k3) (k4) (k5) (g1) (s1) (l1) ((.double (0 : UInt64))) ((.double (0 : UInt64))) ((.double FP.dconst1)) T83.heap n0 Z83 F91 F92 F93 F87 F88 F89 n_g1 n_s1 n_l1) hZ (own_g hw (i := 48) rfl) (own_g hw (i := 47) rfl) (by decide) (by decide)) (g := (mkF m 131 #[iv sl, iv a1, iv b1, iv c1, iv d1, iv e1, .val (.int 0), .val (.int 1), .val (.double g1), .second, .val (.double s1), .second, .val (.double l1), .second, .val (.double g2), .second, .val (.double s2), .second, .val (.double l2), .second, rv pa, .val (.int 1)] [(.double l1), (.double s1), (.double g1), (.int 0), (.ref pa)])) rfl (by rw [hml]; rfl) (argsL := [(.ref pa), (.int 0), (.double g1), (.double s1), (.double l1)]) (rest := []) (lenOf own_pd__Lcom_example_accrue_accrue_exact_Paths_IDDD_Z rfl) rfl (by show 2 * 0 + _ ≤ _; exact Nat.le_of_eq rfl) (hb hby at_131) (fun _ _ => ⟨rfl, rfl, (by decide : 7 + 0 ≤ _), (by decide : 18 + 0 ≤ _)⟩)
    dsimp only [Pt.U, Pt.locs, Pt.cells, Pt.slots] at X98 l98 y98 z98 st98 hQ98
    subst l98 y98 z98
    obtain ⟨rfl, N98q, e98⟩ := hQ98
    have N98 := Fr.app N83 N98q
    refine own_S (mkF m 134 #[iv sl, iv a1, iv b1, iv c1, iv d1, iv e1, .val (.int 0), .val (.int 1), .val (.double g1), .second, .val (.double s1), .second, .val (.double l1), .second, .val (.double g2), .second, .val (.double s2), .second, .val (.double l2), .second, rv pa, .val (.int 1)] [(.int 1)]) (fun _ k => st98 _ k) ?_
    have hc99 : ¬ ((1 : Int32) = (0 : Int32)) := by decide
    refine own_S (mkF m 137 #[iv sl, iv a1, iv b1, iv c1, iv d1, iv e1, .val (.int 0), .val (.int 1), .val (.double g1), .second, .val (.double s1), .second, .val (.double l1), .second, .val (.double g2), .second, .val (.double s2), .second, .val (.double l2), .second, rv pa, .val (.int 1)] []) (fun _ k => XS.ifNo X98.here hx rfl (hb hby at_134) rfl ((if0 _ _).trans (feq hc99).1) k) ?_
    refine own_S (mkF m 139 #[iv sl, iv a1, iv b1, iv c1, iv d1, iv e1, .val (.int 0), .val (.int 1), .val (.double g1), .second, .val (.double s1), .second, .val (.double l1), .second, .val (.double g2), .second, .val (.double s2), .second, .val (.double l2), .second, rv pa, .val (.int 1)] [(.ref pa)]) (fun _ k => XS.aload X98.here hx rfl (hb hby at_137) rfl rfl k) ?_
    refine own_S (mkF m 141 #[iv sl, iv a1, iv b1, iv c1, iv d1, iv e1, .val (.int 0), .val (.int 1), .val (.double g1), .second, .val (.double s1), .second, .val (.double l1), .second, .val (.double g2), .second, .val (.double s2), .second, .val (.double l2), .second, rv pa, .val (.int 1)] [(.int 1), (.ref pa)]) (fun _ k => XS.iload X98.here hx rfl (hb hby at_139) rfl k) ?_
    refine own_S (mkF m 142 #[iv sl, iv a1, iv b1, iv c1, iv d1, iv e1, .val (.int 0), .val (.int 1), .val (.double g1), .second, .val (.double s1), .second, .val (.double l1), .second, .val (.double g2), .second, .val (.double s2), .second, .val (.double l2), .second, rv pa, .val (.int 1)] [(.double (0 : UInt64)), (.int 1), (.ref pa)]) (fun _ k => XS.dconst0 X98.here hx rfl (hb hby at_141) rfl k) ?_
    refine own_S (mkF m 143 #[iv sl, iv a1, iv b1, iv c1, iv d1, iv e1, .val (.int 0), .val (.int 1), .val (.double g1), .second, .val (.double s1), .second, .val (.double l1), .second, .val (.double g2), .second, .val (.double s2), .second, .val (.double l2), .second, rv pa, .val (.int 1)] [(.double (0 : UInt64)), (.double (0 : UInt64)), (.int 1), (.ref pa)]) (fun _ k => XS.dconst0 X98.here hx rfl (hb hby at_142) rfl k) ?_
    refine own_S (mkF m 144 #[iv sl, iv a1, iv b1, iv c1, iv d1, iv e1, .val (.int 0), .val (.int 1), .val (.double g1), .second, .val (.double s1), .second, .val (.double l1), .second, .val (.double g2), .second, .val (.double s2), .second, .val (.double l2), .second, rv pa, .val (.int 1)] [(.double FP.dconst1), (.double (0 : UInt64)), (.double (0 : UInt64)), (.int 1), (.ref pa)]) (fun _ k => XS.dconst1 X98.here hx rfl (hb hby at_143) rfl k) ?_
    obtain ⟨_, _, ⟨T100, L100, k100, n100⟩, -, X100, ⟨Lc100, hQ100, l100, y100, z100⟩, st100⟩ := Jvm.LawKit.callS X98 hx (y := own_y3) hown (mvT hZ (own_g hw (i := 45) rfl)) (mvT hZ (own_g hw (i := 46) rfl)) (mvT hZ (own_g hw (i := 47) rfl)) (mvT hZ (own_g hw (i := 48) rfl)) (by decide) (backOf (W := 0) (own_rmis1 l Z a0 hw [] (pa) (ng) (ns) (nl) (k3) (k4) (k5) ((0 : UInt64)) ((0 : UInt64)) (FP.dconst1) ((.double g1)) ((.double s1)) ((.double l1)) T83.heap n0 Z83 F91 F92 F93 F87 F88 F89 n_z n_z n_o) hZ (own_g hw (i := 48) rfl) (own_g hw (i := 47) rfl) (by decide) (by decide)) (g := (mkF m 144 #[iv sl, iv a1, iv b1, iv c1, iv d1, iv e1, .val (.int 0), .val (.int 1), .val (.double g1), .second, .val (.double s1), .second, .val (.double l1), .second, .val (.double g2), .second, .val (.double s2), .second, .val (.double l2), .second, rv pa, .val (.int 1)] [(.double FP.dconst1), (.double (0 : UInt64)), (.double (0 : UInt64)), (.int 1), (.ref pa)])) rfl (by rw [hml]; rfl) (argsL := [(.ref pa), (.int 1), (.double (0 : UInt64)), (.double (0 : UInt64)), (.double FP.dconst1)]) (rest := []) (lenOf own_pd__Lcom_example_accrue_accrue_exact_Paths_IDDD_Z rfl) rfl (by show 2 * 0 + _ ≤ _; exact Nat.le_of_eq rfl) (hb hby at_144) (fun _ _ => ⟨rfl, e98, (by decide : 7 + 0 ≤ _), (by decide : 18 + 0 ≤ _)⟩)
    dsimp only [Pt.U, Pt.locs, Pt.cells, Pt.slots] at X100 l100 y100 z100 st100 hQ100
    subst l100 y100 z100
    obtain ⟨rfl, N100q, e100⟩ := hQ100
    have N100 := Fr.app N98 N100q
    refine own_S (mkF m 147 #[iv sl, iv a1, iv b1, iv c1, iv d1, iv e1, .val (.int 0), .val (.int 1), .val (.double g1), .second, .val (.double s1), .second, .val (.double l1), .second, .val (.double g2), .second, .val (.double s2), .second, .val (.double l2), .second, rv pa, .val (.int 1)] [(.int 1)]) (fun _ k => st100 _ k) ?_
    have hc101 : ¬ ((1 : Int32) = (0 : Int32)) := by decide
    refine own_S (mkF m 150 #[iv sl, iv a1, iv b1, iv c1, iv d1, iv e1, .val (.int 0), .val (.int 1), .val (.double g1), .second, .val (.double s1), .second, .val (.double l1), .second, .val (.double g2), .second, .val (.double s2), .second, .val (.double l2), .second, rv pa, .val (.int 1)] []) (fun _ k => XS.ifNo X100.here hx rfl (hb hby at_147) rfl ((if0 _ _).trans (feq hc101).1) k) ?_
    refine own_S (mkF m 151 #[iv sl, iv a1, iv b1, iv c1, iv d1, iv e1, .val (.int 0), .val (.int 1), .val (.double g1), .second, .val (.double s1), .second, .val (.double l1), .second, .val (.double g2), .second, .val (.double s2), .second, .val (.double l2), .second, rv pa, .val (.int 1)] [(.int 1)]) (fun _ k => XS.iconst X100.here hx rfl (hb hby at_150) k) ?_
    refine own_S (mkF m 155 #[iv sl, iv a1, iv b1, iv c1, iv d1, iv e1, .val (.int 0), .val (.int 1), .val (.double g1), .second, .val (.double s1), .second, .val (.double l1), .second, .val (.double g2), .second, .val (.double s2), .second, .val (.double l2), .second, rv pa, .val (.int 1)] [(.int 1)]) (fun _ k => XS.goto X100.here hx rfl (pc0 := 151) (pc' := 155) rfl (hb hby at_151) (by decide) (by decide) k) ?_
    refine own_S (mkF m 157 #[iv sl, iv a1, iv b1, iv c1, iv d1, iv e1, .val (.int 0), .val (.int 1), .val (.double g1), .second, .val (.double s1), .second, .val (.double l1), .second, .val (.double g2), .second, .val (.double s2), .second, .val (.double l2), .second, rv pa, .val (.int 1)] []) (fun _ k => XS.istore X100.here hx rfl (hb hby at_155) rfl (l' := #[iv sl, iv a1, iv b1, iv c1, iv d1, iv e1, .val (.int 0), .val (.int 1), .val (.double g1), .second, .val (.double s1), .second, .val (.double l1), .second, .val (.double g2), .second, .val (.double s2), .second, .val (.double l2), .second, rv pa, .val (.int 1)]) rfl k) ?_
    refine own_S (mkF m 159 #[iv sl, iv a1, iv b1, iv c1, iv d1, iv e1, .val (.int 0), .val (.int 1), .val (.double g1), .second, .val (.double s1), .second, .val (.double l1), .second, .val (.double g2), .second, .val (.double s2), .second, .val (.double l2), .second, rv pa, .val (.int 1)] [(.ref pa)]) (fun _ k => XS.aload X100.here hx rfl (hb hby at_157) rfl rfl k) ?_
    obtain ⟨cq102, kq102, q102a, q102b, q102c⟩ := isOf hZ e100 F90
    obtain ⟨_, _, ⟨T102, L102, k102, n102⟩, -, X102, ⟨Lc102, hQ102, l102, y102, z102⟩, st102⟩ := X100.virtualBack hx (y := own_y4) (z := own_y4) hown (mvT hZ (own_g hw (i := 40) rfl)) (mvT hZ (own_g hw (i := 41) rfl)) (notFace_of_selects (args := #[]) (mvT hZ (own_g hw (i := 43) rfl))) (mvT hZ (own_g hw (i := 43) rfl)) (mvT hZ (own_g hw (i := 42) rfl)) (by decide) (backOf (W := 0) (own_rmadv l Z a0 hw [] (pa) (ng) (ns) (nl) (ga) (sa) (la) T83.heap n0 Z83 F90 F91 F92 F93 F94 F95 F96 ge_pa) hZ (own_g hw (i := 44) rfl) (own_g hw (i := 2) rfl) (by decide) (by decide)) q102a q102c (g := (mkF m 159 #[iv sl, iv a1, iv b1, iv c1, iv d1, iv e1, .val (.int 0), .val (.int 1), .val (.double g1), .second, .val (.double s1), .second, .val (.double l1), .second, .val (.double g2), .second, .val (.double s2), .second, .val (.double l2), .second, rv pa, .val (.int 1)] [(.ref pa)])) rfl (by rw [hml]; rfl) (Steps.refl _) (argsL := []) (rest := []) (lenOf own_pd___V rfl) rfl (by show 2 * 0 + _ ≤ _; exact Nat.le_of_eq rfl) (hb hby at_159) (fun _ _ => ⟨rfl, e100, (by decide : 7 + 0 ≤ _), (by decide : 18 + 0 ≤ _)⟩)
    dsimp only [Pt.U, Pt.locs, Pt.cells, Pt.slots] at X102 l102 y102 z102 st102 hQ102
    subst l102 y102 z102
    obtain ⟨rfl, N102q, K102q, F103, F104, F105, F106, F107, F108, F109⟩ := hQ102
    have N102 := Fr.app N100 N102q
    refine own_S (mkF m 162 #[iv sl, iv a1, iv b1, iv c1, iv d1, iv e1, .val (.int 0), .val (.int 1), .val (.double g1), .second, .val (.double s1), .second, .val (.double l1), .second, .val (.double g2), .second, .val (.double s2), .second, .val (.double l2), .second, rv pa, .val (.int 1)] []) (fun _ k => st102.trans k) ?_
    have F110 := F87.keep K102q (ninS (Ne.symm n48) nin0)
    have F111 := F88.keep K102q (ninS (Ne.symm n49) nin0)
    have F112 := F89.keep K102q (ninS (Ne.symm n50) nin0)
    have F113 := F84.keep K102q (ninS (Ne.symm n45) nin0)
    have F114 := F85.keep K102q (ninS (Ne.symm n46) nin0)
    have F115 := F86.keep K102q (ninS (Ne.symm n47) nin0)
    have Z102 : n0 ≤ T102.heap.size := Nat.le_trans Z83 K102q.1
    refine own_S (mkF m 164 #[iv sl, iv a1, iv b1, iv c1, iv d1, iv e1, .val (.int 0), .val (.int 1), .val (.double g1), .second, .val (.double s1), .second, .val (.double l1), .second, .val (.double g2), .second, .val (.double s2), .second, .val (.double l2), .second, rv pa, .val (.int 1)] [(.int 1)]) (fun _ k => XS.iload X102.here hx rfl (hb hby at_162) rfl k) ?_
    have hc116 : ¬ ((1 : Int32) = (0 : Int32)) := by decide
    refine own_S (mkF m 167 #[iv sl, iv a1, iv b1, iv c1, iv d1, iv e1, .val (.int 0), .val (.int 1), .val (.double g1), .second, .val (.double s1), .second, .val (.double l1), .second, .val (.double g2), .second, .val (.double s2), .second, .val (.double l2), .second, rv pa, .val (.int 1)] []) (fun _ k => XS.ifNo X102.here hx rfl (hb hby at_164) rfl ((if0 _ _).trans (feq hc116).1) k) ?_
    refine own_S (mkF m 169 #[iv sl, iv a1, iv b1, iv c1, iv d1, iv e1, .val (.int 0), .val (.int 1), .val (.double g1), .second, .val (.double s1), .second, .val (.double l1), .second, .val (.double g2), .second, .val (.double s2), .second, .val (.double l2), .second, rv pa, .val (.int 1)] [(.ref pa)]) (fun _ k => XS.aload X102.here hx rfl (hb hby at_167) rfl rfl k) ?_
    refine own_S (mkF m 171 #[iv sl, iv a1, iv b1, iv c1, iv d1, iv e1, .val (.int 0), .val (.int 1), .val (.double g1), .second, .val (.double s1), .second, .val (.double l1), .second, .val (.double g2), .second, .val (.double s2), .second, .val (.double l2), .second, rv pa, .val (.int 1)] [(.int 0), (.ref pa)]) (fun _ k => XS.iload X102.here hx rfl (hb hby at_169) rfl k) ?_
    refine own_S (mkF m 173 #[iv sl, iv a1, iv b1, iv c1, iv d1, iv e1, .val (.int 0), .val (.int 1), .val (.double g1), .second, .val (.double s1), .second, .val (.double l1), .second, .val (.double g2), .second, .val (.double s2), .second, .val (.double l2), .second, rv pa, .val (.int 1)] [(.double g2), (.int 0), (.ref pa)]) (fun _ k => XS.dload X102.here hx rfl (hb hby at_171) rfl k) ?_
    refine own_S (mkF m 175 #[iv sl, iv a1, iv b1, iv c1, iv d1, iv e1, .val (.int 0), .val (.int 1), .val (.double g1), .second, .val (.double s1), .second, .val (.double l1), .second, .val (.double g2), .second, .val (.double s2), .second, .val (.double l2), .second, rv pa, .val (.int 1)] [(.double s2), (.double g2), (.int 0), (.ref pa)]) (fun _ k => XS.dload X102.here hx rfl (hb hby at_173) rfl k) ?_
    refine own_S (mkF m 177 #[iv sl, iv a1, iv b1, iv c1, iv d1, iv e1, .val (.int 0), .val (.int 1), .val (.double g1), .second, .val (.double s1), .second, .val (.double l1), .second, .val (.double g2), .second, .val (.double s2), .second, .val (.double l2), .second, rv pa, .val (.int 1)] [(.double l2), (.double s2), (.double g2), (.int 0), (.ref pa)]) (fun _ k => XS.dload X102.here hx rfl (hb hby at_175) rfl k) ?_
    obtain ⟨_, _, ⟨T117, L117, k117, n117⟩, -, X117, ⟨Lc117, hQ117, l117, y117, z117⟩, st117⟩ := Jvm.LawKit.callS X102 hx (y := own_y3) hown (mvT hZ (own_g hw (i := 45) rfl)) (mvT hZ (own_g hw (i := 46) rfl)) (mvT hZ (own_g hw (i := 47) rfl)) (mvT hZ (own_g hw (i := 48) rfl)) (by decide) (backOf (W := 0) (own_rmis0 l Z a0 hw [] (pa) (ga) (sa) (la) (k0) (k1) (k2) (g2) (s2) (l2) ((.double (0 : UInt64))) ((.double (0 : UInt64))) ((.double FP.dconst1)) T102.heap n0 Z102 F104 F105 F106 F113 F114 F115 n_g2 n_s2 n_l2) hZ (own_g hw (i := 48) rfl) (own_g hw (i := 47) rfl) (by decide) (by decide)) (g := (mkF m 177 #[iv sl, iv a1, iv b1, iv c1, iv d1, iv e1, .val (.int 0), .val (.int 1), .val (.double g1), .second, .val (.double s1), .second, .val (.double l1), .second, .val (.double g2), .second, .val (.double s2), .second, .val (.double l2), .second, rv pa, .val (.int 1)] [(.double l2), (.double s2), (.double g2), (.int 0), (.ref pa)])) rfl (by rw [hml]; rfl) (argsL := [(.ref pa), (.int 0), (.double g2), (.double s2), (.double l2)]) (rest := []) (lenOf own_pd__Lcom_example_accrue_accrue_exact_Paths_IDDD_Z rfl) rfl (by show 2 * 0 + _ ≤ _; exact Nat.le_of_eq rfl) (hb hby at_177) (fun _ _ => ⟨rfl, rfl, (by decide : 7 + 0 ≤ _), (by decide : 18 + 0 ≤ _)⟩)
    dsimp only [Pt.U, Pt.locs, Pt.cells, Pt.slots] at X117 l117 y117 z117 st117 hQ117
    subst l117 y117 z117
    obtain ⟨rfl, N117q, e117⟩ := hQ117
    have N117 := Fr.app N102 N117q
    refine own_S (mkF m 180 #[iv sl, iv a1, iv b1, iv c1, iv d1, iv e1, .val (.int 0), .val (.int 1), .val (.double g1), .second, .val (.double s1), .second, .val (.double l1), .second, .val (.double g2), .second, .val (.double s2), .second, .val (.double l2), .second, rv pa, .val (.int 1)] [(.int 1)]) (fun _ k => st117 _ k) ?_
    have hc118 : ¬ ((1 : Int32) = (0 : Int32)) := by decide
    refine own_S (mkF m 183 #[iv sl, iv a1, iv b1, iv c1, iv d1, iv e1, .val (.int 0), .val (.int 1), .val (.double g1), .second, .val (.double s1), .second, .val (.double l1), .second, .val (.double g2), .second, .val (.double s2), .second, .val (.double l2), .second, rv pa, .val (.int 1)] []) (fun _ k => XS.ifNo X117.here hx rfl (hb hby at_180) rfl ((if0 _ _).trans (feq hc118).1) k) ?_
    refine own_S (mkF m 185 #[iv sl, iv a1, iv b1, iv c1, iv d1, iv e1, .val (.int 0), .val (.int 1), .val (.double g1), .second, .val (.double s1), .second, .val (.double l1), .second, .val (.double g2), .second, .val (.double s2), .second, .val (.double l2), .second, rv pa, .val (.int 1)] [(.ref pa)]) (fun _ k => XS.aload X117.here hx rfl (hb hby at_183) rfl rfl k) ?_
    refine own_S (mkF m 187 #[iv sl, iv a1, iv b1, iv c1, iv d1, iv e1, .val (.int 0), .val (.int 1), .val (.double g1), .second, .val (.double s1), .second, .val (.double l1), .second, .val (.double g2), .second, .val (.double s2), .second, .val (.double l2), .second, rv pa, .val (.int 1)] [(.int 1), (.ref pa)]) (fun _ k => XS.iload X117.here hx rfl (hb hby at_185) rfl k) ?_
    refine own_S (mkF m 188 #[iv sl, iv a1, iv b1, iv c1, iv d1, iv e1, .val (.int 0), .val (.int 1), .val (.double g1), .second, .val (.double s1), .second, .val (.double l1), .second, .val (.double g2), .second, .val (.double s2), .second, .val (.double l2), .second, rv pa, .val (.int 1)] [(.double (0 : UInt64)), (.int 1), (.ref pa)]) (fun _ k => XS.dconst0 X117.here hx rfl (hb hby at_187) rfl k) ?_
    refine own_S (mkF m 189 #[iv sl, iv a1, iv b1, iv c1, iv d1, iv e1, .val (.int 0), .val (.int 1), .val (.double g1), .second, .val (.double s1), .second, .val (.double l1), .second, .val (.double g2), .second, .val (.double s2), .second, .val (.double l2), .second, rv pa, .val (.int 1)] [(.double (0 : UInt64)), (.double (0 : UInt64)), (.int 1), (.ref pa)]) (fun _ k => XS.dconst0 X117.here hx rfl (hb hby at_188) rfl k) ?_
    refine own_S (mkF m 190 #[iv sl, iv a1, iv b1, iv c1, iv d1, iv e1, .val (.int 0), .val (.int 1), .val (.double g1), .second, .val (.double s1), .second, .val (.double l1), .second, .val (.double g2), .second, .val (.double s2), .second, .val (.double l2), .second, rv pa, .val (.int 1)] [(.double FP.dconst1), (.double (0 : UInt64)), (.double (0 : UInt64)), (.int 1), (.ref pa)]) (fun _ k => XS.dconst1 X117.here hx rfl (hb hby at_189) rfl k) ?_
    obtain ⟨_, _, ⟨T119, L119, k119, n119⟩, -, X119, ⟨Lc119, hQ119, l119, y119, z119⟩, st119⟩ := Jvm.LawKit.callS X117 hx (y := own_y3) hown (mvT hZ (own_g hw (i := 45) rfl)) (mvT hZ (own_g hw (i := 46) rfl)) (mvT hZ (own_g hw (i := 47) rfl)) (mvT hZ (own_g hw (i := 48) rfl)) (by decide) (backOf (W := 0) (own_rmis1 l Z a0 hw [] (pa) (ga) (sa) (la) (k0) (k1) (k2) ((0 : UInt64)) ((0 : UInt64)) (FP.dconst1) ((.double g2)) ((.double s2)) ((.double l2)) T102.heap n0 Z102 F104 F105 F106 F113 F114 F115 n_z n_z n_o) hZ (own_g hw (i := 48) rfl) (own_g hw (i := 47) rfl) (by decide) (by decide)) (g := (mkF m 190 #[iv sl, iv a1, iv b1, iv c1, iv d1, iv e1, .val (.int 0), .val (.int 1), .val (.double g1), .second, .val (.double s1), .second, .val (.double l1), .second, .val (.double g2), .second, .val (.double s2), .second, .val (.double l2), .second, rv pa, .val (.int 1)] [(.double FP.dconst1), (.double (0 : UInt64)), (.double (0 : UInt64)), (.int 1), (.ref pa)])) rfl (by rw [hml]; rfl) (argsL := [(.ref pa), (.int 1), (.double (0 : UInt64)), (.double (0 : UInt64)), (.double FP.dconst1)]) (rest := []) (lenOf own_pd__Lcom_example_accrue_accrue_exact_Paths_IDDD_Z rfl) rfl (by show 2 * 0 + _ ≤ _; exact Nat.le_of_eq rfl) (hb hby at_190) (fun _ _ => ⟨rfl, e117, (by decide : 7 + 0 ≤ _), (by decide : 18 + 0 ≤ _)⟩)
    dsimp only [Pt.U, Pt.locs, Pt.cells, Pt.slots] at X119 l119 y119 z119 st119 hQ119
    subst l119 y119 z119
    obtain ⟨rfl, N119q, e119⟩ := hQ119
    have N119 := Fr.app N117 N119q
    refine own_S (mkF m 193 #[iv sl, iv a1, iv b1, iv c1, iv d1, iv e1, .val (.int 0), .val (.int 1), .val (.double g1), .second, .val (.double s1), .second, .val (.double l1), .second, .val (.double g2), .second, .val (.double s2), .second, .val (.double l2), .second, rv pa, .val (.int 1)] [(.int 1)]) (fun _ k => st119 _ k) ?_
    have hc120 : ¬ ((1 : Int32) = (0 : Int32)) := by decide
    refine own_S (mkF m 196 #[iv sl, iv a1, iv b1, iv c1, iv d1, iv e1, .val (.int 0), .val (.int 1), .val (.double g1), .second, .val (.double s1), .second, .val (.double l1), .second, .val (.double g2), .second, .val (.double s2), .second, .val (.double l2), .second, rv pa, .val (.int 1)] []) (fun _ k => XS.ifNo X119.here hx rfl (hb hby at_193) rfl ((if0 _ _).trans (feq hc120).1) k) ?_
    refine own_S (mkF m 197 #[iv sl, iv a1, iv b1, iv c1, iv d1, iv e1, .val (.int 0), .val (.int 1), .val (.double g1), .second, .val (.double s1), .second, .val (.double l1), .second, .val (.double g2), .second, .val (.double s2), .second, .val (.double l2), .second, rv pa, .val (.int 1)] [(.int 1)]) (fun _ k => XS.iconst X119.here hx rfl (hb hby at_196) k) ?_
    refine own_S (mkF m 201 #[iv sl, iv a1, iv b1, iv c1, iv d1, iv e1, .val (.int 0), .val (.int 1), .val (.double g1), .second, .val (.double s1), .second, .val (.double l1), .second, .val (.double g2), .second, .val (.double s2), .second, .val (.double l2), .second, rv pa, .val (.int 1)] [(.int 1)]) (fun _ k => XS.goto X119.here hx rfl (pc0 := 197) (pc' := 201) rfl (hb hby at_197) (by decide) (by decide) k) ?_
    refine own_S (mkF m 203 #[iv sl, iv a1, iv b1, iv c1, iv d1, iv e1, .val (.int 0), .val (.int 1), .val (.double g1), .second, .val (.double s1), .second, .val (.double l1), .second, .val (.double g2), .second, .val (.double s2), .second, .val (.double l2), .second, rv pa, .val (.int 1)] []) (fun _ k => XS.istore X119.here hx rfl (hb hby at_201) rfl (l' := #[iv sl, iv a1, iv b1, iv c1, iv d1, iv e1, .val (.int 0), .val (.int 1), .val (.double g1), .second, .val (.double s1), .second, .val (.double l1), .second, .val (.double g2), .second, .val (.double s2), .second, .val (.double l2), .second, rv pa, .val (.int 1)]) rfl k) ?_
    refine own_S (mkF m 205 #[iv sl, iv a1, iv b1, iv c1, iv d1, iv e1, .val (.int 0), .val (.int 1), .val (.double g1), .second, .val (.double s1), .second, .val (.double l1), .second, .val (.double g2), .second, .val (.double s2), .second, .val (.double l2), .second, rv pa, .val (.int 1)] [(.ref pa)]) (fun _ k => XS.aload X119.here hx rfl (hb hby at_203) rfl rfl k) ?_
    obtain ⟨cq121, kq121, q121a, q121b, q121c⟩ := isOf hZ e119 F103
    obtain ⟨_, _, ⟨T121, L121, k121, n121⟩, -, X121, ⟨Lc121, hQ121, l121, y121, z121⟩, st121⟩ := X119.virtualBack hx (y := own_y4) (z := own_y4) hown (mvT hZ (own_g hw (i := 40) rfl)) (mvT hZ (own_g hw (i := 41) rfl)) (notFace_of_selects (args := #[]) (mvT hZ (own_g hw (i := 43) rfl))) (mvT hZ (own_g hw (i := 43) rfl)) (mvT hZ (own_g hw (i := 42) rfl)) (by decide) (backOf (W := 0) (own_rmadv l Z a0 hw [] (pa) (ga) (sa) (la) (ng) (ns) (nl) T102.heap n0 Z102 F103 F104 F105 F106 F107 F108 F109 ge_pa) hZ (own_g hw (i := 44) rfl) (own_g hw (i := 2) rfl) (by decide) (by decide)) q121a q121c (g := (mkF m 205 #[iv sl, iv a1, iv b1, iv c1, iv d1, iv e1, .val (.int 0), .val (.int 1), .val (.double g1), .second, .val (.double s1), .second, .val (.double l1), .second, .val (.double g2), .second, .val (.double s2), .second, .val (.double l2), .second, rv pa, .val (.int 1)] [(.ref pa)])) rfl (by rw [hml]; rfl) (Steps.refl _) (argsL := []) (rest := []) (lenOf own_pd___V rfl) rfl (by show 2 * 0 + _ ≤ _; exact Nat.le_of_eq rfl) (hb hby at_205) (fun _ _ => ⟨rfl, e119, (by decide : 7 + 0 ≤ _), (by decide : 18 + 0 ≤ _)⟩)
    dsimp only [Pt.U, Pt.locs, Pt.cells, Pt.slots] at X121 l121 y121 z121 st121 hQ121
    subst l121 y121 z121
    obtain ⟨rfl, N121q, K121q, F122, F123, F124, F125, F126, F127, F128⟩ := hQ121
    have N121 := Fr.app N119 N121q
    refine own_S (mkF m 208 #[iv sl, iv a1, iv b1, iv c1, iv d1, iv e1, .val (.int 0), .val (.int 1), .val (.double g1), .second, .val (.double s1), .second, .val (.double l1), .second, .val (.double g2), .second, .val (.double s2), .second, .val (.double l2), .second, rv pa, .val (.int 1)] []) (fun _ k => st121.trans k) ?_
    have F129 := F110.keep K121q (ninS (Ne.symm n48) nin0)
    have F130 := F111.keep K121q (ninS (Ne.symm n49) nin0)
    have F131 := F112.keep K121q (ninS (Ne.symm n50) nin0)
    have F132 := F113.keep K121q (ninS (Ne.symm n45) nin0)
    have F133 := F114.keep K121q (ninS (Ne.symm n46) nin0)
    have F134 := F115.keep K121q (ninS (Ne.symm n47) nin0)
    have Z121 : n0 ≤ T121.heap.size := Nat.le_trans Z102 K121q.1
    refine own_S (mkF m 210 #[iv sl, iv a1, iv b1, iv c1, iv d1, iv e1, .val (.int 0), .val (.int 1), .val (.double g1), .second, .val (.double s1), .second, .val (.double l1), .second, .val (.double g2), .second, .val (.double s2), .second, .val (.double l2), .second, rv pa, .val (.int 1)] [(.int 1)]) (fun _ k => XS.iload X121.here hx rfl (hb hby at_208) rfl k) ?_
    have hc135 : ¬ ((1 : Int32) = (0 : Int32)) := by decide
    refine own_S (mkF m 213 #[iv sl, iv a1, iv b1, iv c1, iv d1, iv e1, .val (.int 0), .val (.int 1), .val (.double g1), .second, .val (.double s1), .second, .val (.double l1), .second, .val (.double g2), .second, .val (.double s2), .second, .val (.double l2), .second, rv pa, .val (.int 1)] []) (fun _ k => XS.ifNo X121.here hx rfl (hb hby at_210) rfl ((if0 _ _).trans (feq hc135).1) k) ?_
    refine own_S (mkF m 215 #[iv sl, iv a1, iv b1, iv c1, iv d1, iv e1, .val (.int 0), .val (.int 1), .val (.double g1), .second, .val (.double s1), .second, .val (.double l1), .second, .val (.double g2), .second, .val (.double s2), .second, .val (.double l2), .second, rv pa, .val (.int 1)] [(.ref pa)]) (fun _ k => XS.aload X121.here hx rfl (hb hby at_213) rfl rfl k) ?_
    refine own_S (mkF m 217 #[iv sl, iv a1, iv b1, iv c1, iv d1, iv e1, .val (.int 0), .val (.int 1), .val (.double g1), .second, .val (.double s1), .second, .val (.double l1), .second, .val (.double g2), .second, .val (.double s2), .second, .val (.double l2), .second, rv pa, .val (.int 1)] [(.int 0), (.ref pa)]) (fun _ k => XS.iload X121.here hx rfl (hb hby at_215) rfl k) ?_
    refine own_S (mkF m 219 #[iv sl, iv a1, iv b1, iv c1, iv d1, iv e1, .val (.int 0), .val (.int 1), .val (.double g1), .second, .val (.double s1), .second, .val (.double l1), .second, .val (.double g2), .second, .val (.double s2), .second, .val (.double l2), .second, rv pa, .val (.int 1)] [(.double g1), (.int 0), (.ref pa)]) (fun _ k => XS.dload X121.here hx rfl (hb hby at_217) rfl k) ?_
    refine own_S (mkF m 221 #[iv sl, iv a1, iv b1, iv c1, iv d1, iv e1, .val (.int 0), .val (.int 1), .val (.double g1), .second, .val (.double s1), .second, .val (.double l1), .second, .val (.double g2), .second, .val (.double s2), .second, .val (.double l2), .second, rv pa, .val (.int 1)] [(.double s1), (.double g1), (.int 0), (.ref pa)]) (fun _ k => XS.dload X121.here hx rfl (hb hby at_219) rfl k) ?_
    refine own_S (mkF m 223 #[iv sl, iv a1, iv b1, iv c1, iv d1, iv e1, .val (.int 0), .val (.int 1), .val (.double g1), .second, .val (.double s1), .second, .val (.double l1), .second, .val (.double g2), .second, .val (.double s2), .second, .val (.double l2), .second, rv pa, .val (.int 1)] [(.double l1), (.double s1), (.double g1), (.int 0), (.ref pa)]) (fun _ k => XS.dload X121.here hx rfl (hb hby at_221) rfl k) ?_
    obtain ⟨_, _, ⟨T136, L136, k136, n136⟩, -, X136, ⟨Lc136, hQ136, l136, y136, z136⟩, st136⟩ := Jvm.LawKit.callS X121 hx (y := own_y3) hown (mvT hZ (own_g hw (i := 45) rfl)) (mvT hZ (own_g hw (i := 46) rfl)) (mvT hZ (own_g hw (i := 47) rfl)) (mvT hZ (own_g hw (i := 48) rfl)) (by decide) (backOf (W := 0) (own_rmis0 l Z a0 hw [] (pa) (ng) (ns) (nl) (k3) (k4) (k5) (g1) (s1) (l1) ((.double (0 : UInt64))) ((.double (0 : UInt64))) ((.double FP.dconst1)) T121.heap n0 Z121 F123 F124 F125 F129 F130 F131 n_g1 n_s1 n_l1) hZ (own_g hw (i := 48) rfl) (own_g hw (i := 47) rfl) (by decide) (by decide)) (g := (mkF m 223 #[iv sl, iv a1, iv b1, iv c1, iv d1, iv e1, .val (.int 0), .val (.int 1), .val (.double g1), .second, .val (.double s1), .second, .val (.double l1), .second, .val (.double g2), .second, .val (.double s2), .second, .val (.double l2), .second, rv pa, .val (.int 1)] [(.double l1), (.double s1), (.double g1), (.int 0), (.ref pa)])) rfl (by rw [hml]; rfl) (argsL := [(.ref pa), (.int 0), (.double g1), (.double s1), (.double l1)]) (rest := []) (lenOf own_pd__Lcom_example_accrue_accrue_exact_Paths_IDDD_Z rfl) rfl (by show 2 * 0 + _ ≤ _; exact Nat.le_of_eq rfl) (hb hby at_223) (fun _ _ => ⟨rfl, rfl, (by decide : 7 + 0 ≤ _), (by decide : 18 + 0 ≤ _)⟩)
    dsimp only [Pt.U, Pt.locs, Pt.cells, Pt.slots] at X136 l136 y136 z136 st136 hQ136
    subst l136 y136 z136
    obtain ⟨rfl, N136q, e136⟩ := hQ136
    have N136 := Fr.app N121 N136q
    refine own_S (mkF m 226 #[iv sl, iv a1, iv b1, iv c1, iv d1, iv e1, .val (.int 0), .val (.int 1), .val (.double g1), .second, .val (.double s1), .second, .val (.double l1), .second, .val (.double g2), .second, .val (.double s2), .second, .val (.double l2), .second, rv pa, .val (.int 1)] [(.int 1)]) (fun _ k => st136 _ k) ?_
    have hc137 : ¬ ((1 : Int32) = (0 : Int32)) := by decide
    refine own_S (mkF m 229 #[iv sl, iv a1, iv b1, iv c1, iv d1, iv e1, .val (.int 0), .val (.int 1), .val (.double g1), .second, .val (.double s1), .second, .val (.double l1), .second, .val (.double g2), .second, .val (.double s2), .second, .val (.double l2), .second, rv pa, .val (.int 1)] []) (fun _ k => XS.ifNo X136.here hx rfl (hb hby at_226) rfl ((if0 _ _).trans (feq hc137).1) k) ?_
    refine own_S (mkF m 231 #[iv sl, iv a1, iv b1, iv c1, iv d1, iv e1, .val (.int 0), .val (.int 1), .val (.double g1), .second, .val (.double s1), .second, .val (.double l1), .second, .val (.double g2), .second, .val (.double s2), .second, .val (.double l2), .second, rv pa, .val (.int 1)] [(.ref pa)]) (fun _ k => XS.aload X136.here hx rfl (hb hby at_229) rfl rfl k) ?_
    refine own_S (mkF m 233 #[iv sl, iv a1, iv b1, iv c1, iv d1, iv e1, .val (.int 0), .val (.int 1), .val (.double g1), .second, .val (.double s1), .second, .val (.double l1), .second, .val (.double g2), .second, .val (.double s2), .second, .val (.double l2), .second, rv pa, .val (.int 1)] [(.int 1), (.ref pa)]) (fun _ k => XS.iload X136.here hx rfl (hb hby at_231) rfl k) ?_
    refine own_S (mkF m 234 #[iv sl, iv a1, iv b1, iv c1, iv d1, iv e1, .val (.int 0), .val (.int 1), .val (.double g1), .second, .val (.double s1), .second, .val (.double l1), .second, .val (.double g2), .second, .val (.double s2), .second, .val (.double l2), .second, rv pa, .val (.int 1)] [(.double (0 : UInt64)), (.int 1), (.ref pa)]) (fun _ k => XS.dconst0 X136.here hx rfl (hb hby at_233) rfl k) ?_
    refine own_S (mkF m 235 #[iv sl, iv a1, iv b1, iv c1, iv d1, iv e1, .val (.int 0), .val (.int 1), .val (.double g1), .second, .val (.double s1), .second, .val (.double l1), .second, .val (.double g2), .second, .val (.double s2), .second, .val (.double l2), .second, rv pa, .val (.int 1)] [(.double (0 : UInt64)), (.double (0 : UInt64)), (.int 1), (.ref pa)]) (fun _ k => XS.dconst0 X136.here hx rfl (hb hby at_234) rfl k) ?_
    refine own_S (mkF m 236 #[iv sl, iv a1, iv b1, iv c1, iv d1, iv e1, .val (.int 0), .val (.int 1), .val (.double g1), .second, .val (.double s1), .second, .val (.double l1), .second, .val (.double g2), .second, .val (.double s2), .second, .val (.double l2), .second, rv pa, .val (.int 1)] [(.double FP.dconst1), (.double (0 : UInt64)), (.double (0 : UInt64)), (.int 1), (.ref pa)]) (fun _ k => XS.dconst1 X136.here hx rfl (hb hby at_235) rfl k) ?_
    obtain ⟨_, _, ⟨T138, L138, k138, n138⟩, -, X138, ⟨Lc138, hQ138, l138, y138, z138⟩, st138⟩ := Jvm.LawKit.callS X136 hx (y := own_y3) hown (mvT hZ (own_g hw (i := 45) rfl)) (mvT hZ (own_g hw (i := 46) rfl)) (mvT hZ (own_g hw (i := 47) rfl)) (mvT hZ (own_g hw (i := 48) rfl)) (by decide) (backOf (W := 0) (own_rmis1 l Z a0 hw [] (pa) (ng) (ns) (nl) (k3) (k4) (k5) ((0 : UInt64)) ((0 : UInt64)) (FP.dconst1) ((.double g1)) ((.double s1)) ((.double l1)) T121.heap n0 Z121 F123 F124 F125 F129 F130 F131 n_z n_z n_o) hZ (own_g hw (i := 48) rfl) (own_g hw (i := 47) rfl) (by decide) (by decide)) (g := (mkF m 236 #[iv sl, iv a1, iv b1, iv c1, iv d1, iv e1, .val (.int 0), .val (.int 1), .val (.double g1), .second, .val (.double s1), .second, .val (.double l1), .second, .val (.double g2), .second, .val (.double s2), .second, .val (.double l2), .second, rv pa, .val (.int 1)] [(.double FP.dconst1), (.double (0 : UInt64)), (.double (0 : UInt64)), (.int 1), (.ref pa)])) rfl (by rw [hml]; rfl) (argsL := [(.ref pa), (.int 1), (.double (0 : UInt64)), (.double (0 : UInt64)), (.double FP.dconst1)]) (rest := []) (lenOf own_pd__Lcom_example_accrue_accrue_exact_Paths_IDDD_Z rfl) rfl (by show 2 * 0 + _ ≤ _; exact Nat.le_of_eq rfl) (hb hby at_236) (fun _ _ => ⟨rfl, e136, (by decide : 7 + 0 ≤ _), (by decide : 18 + 0 ≤ _)⟩)
    dsimp only [Pt.U, Pt.locs, Pt.cells, Pt.slots] at X138 l138 y138 z138 st138 hQ138
    subst l138 y138 z138
    obtain ⟨rfl, N138q, e138⟩ := hQ138
    have N138 := Fr.app N136 N138q
    refine own_S (mkF m 239 #[iv sl, iv a1, iv b1, iv c1, iv d1, iv e1, .val (.int 0), .val (.int 1), .val (.double g1), .second, .val (.double s1), .second, .val (.double l1), .second, .val (.double g2), .second, .val (.double s2), .second, .val (.double l2), .second, rv pa, .val (.int 1)] [(.int 1)]) (fun _ k => st138 _ k) ?_
    have hc139 : ¬ ((1 : Int32) = (0 : Int32)) := by decide
    refine own_S (mkF m 242 #[iv sl, iv a1, iv b1, iv c1, iv d1, iv e1, .val (.int 0), .val (.int 1), .val (.double g1), .second, .val (.double s1), .second, .val (.double l1), .second, .val (.double g2), .second, .val (.double s2), .second, .val (.double l2), .second, rv pa, .val (.int 1)] []) (fun _ k => XS.ifNo X138.here hx rfl (hb hby at_239) rfl ((if0 _ _).trans (feq hc139).1) k) ?_
    refine own_S (mkF m 243 #[iv sl, iv a1, iv b1, iv c1, iv d1, iv e1, .val (.int 0), .val (.int 1), .val (.double g1), .second, .val (.double s1), .second, .val (.double l1), .second, .val (.double g2), .second, .val (.double s2), .second, .val (.double l2), .second, rv pa, .val (.int 1)] [(.int 1)]) (fun _ k => XS.iconst X138.here hx rfl (hb hby at_242) k) ?_
    refine own_S (mkF m 247 #[iv sl, iv a1, iv b1, iv c1, iv d1, iv e1, .val (.int 0), .val (.int 1), .val (.double g1), .second, .val (.double s1), .second, .val (.double l1), .second, .val (.double g2), .second, .val (.double s2), .second, .val (.double l2), .second, rv pa, .val (.int 1)] [(.int 1)]) (fun _ k => XS.goto X138.here hx rfl (pc0 := 243) (pc' := 247) rfl (hb hby at_243) (by decide) (by decide) k) ?_
    refine own_S (mkF m 249 #[iv sl, iv a1, iv b1, iv c1, iv d1, iv e1, .val (.int 0), .val (.int 1), .val (.double g1), .second, .val (.double s1), .second, .val (.double l1), .second, .val (.double g2), .second, .val (.double s2), .second, .val (.double l2), .second, rv pa, .val (.int 1)] []) (fun _ k => XS.istore X138.here hx rfl (hb hby at_247) rfl (l' := #[iv sl, iv a1, iv b1, iv c1, iv d1, iv e1, .val (.int 0), .val (.int 1), .val (.double g1), .second, .val (.double s1), .second, .val (.double l1), .second, .val (.double g2), .second, .val (.double s2), .second, .val (.double l2), .second, rv pa, .val (.int 1)]) rfl k) ?_
    refine own_S (mkF m 251 #[iv sl, iv a1, iv b1, iv c1, iv d1, iv e1, .val (.int 0), .val (.int 1), .val (.double g1), .second, .val (.double s1), .second, .val (.double l1), .second, .val (.double g2), .second, .val (.double s2), .second, .val (.double l2), .second, rv pa, .val (.int 1)] [(.int 1)]) (fun _ k => XS.iload X138.here hx rfl (hb hby at_249) rfl k) ?_
    exact own_retN X138 hx hlk (t := .boolean) hret (by simp) (hb hby at_251) (by rw [e138]; exact ⟨rfl, N138, trivial⟩) (by decide) (by decide)
  · -- ss = 1
    subst q2_1
    refine own_S (mkF m 6 #[iv sl, iv a1, iv b1, iv c1, iv d1, iv e1, .val (.int 1), .unset, .unset, .unset, .unset, .unset, .unset, .unset, .unset, .unset, .unset, .unset, .unset, .unset, .unset, .unset] [(.int 1)]) (fun _ k => XS.iconst X0.here hx rfl (hb hby at_5) k) ?_
    refine own_S (mkF m 8 #[iv sl, iv a1, iv b1, iv c1, iv d1, iv e1, .val (.int 1), .unset, .unset, .unset, .unset, .unset, .unset, .unset, .unset, .unset, .unset, .unset, .unset, .unset, .unset, .unset] [(.int 1), (.int 1)]) (fun _ k => XS.iload X0.here hx rfl (hb hby at_6) rfl k) ?_
    refine own_S (mkF m 9 #[iv sl, iv a1, iv b1, iv c1, iv d1, iv e1, .val (.int 1), .unset, .unset, .unset, .unset, .unset, .unset, .unset, .unset, .unset, .unset, .unset, .unset, .unset, .unset, .unset] [(.int 0)]) (fun _ k => XS.isub X0.here hx rfl (hb hby at_8) rfl k) ?_
    refine own_S (mkF m 11 #[iv sl, iv a1, iv b1, iv c1, iv d1, iv e1, .val (.int 1), .val (.int 0), .unset, .unset, .unset, .unset, .unset, .unset, .unset, .unset, .unset, .unset, .unset, .unset, .unset, .unset] []) (fun _ k => XS.istore X0.here hx rfl (hb hby at_9) rfl (l' := #[iv sl, iv a1, iv b1, iv c1, iv d1, iv e1, .val (.int 1), .val (.int 0), .unset, .unset, .unset, .unset, .unset, .unset, .unset, .unset, .unset, .unset, .unset, .unset, .unset, .unset]) rfl k) ?_
    refine own_S (mkF m 12 #[iv sl, iv a1, iv b1, iv c1, iv d1, iv e1, .val (.int 1), .val (.int 0), .unset, .unset, .unset, .unset, .unset, .unset, .unset, .unset, .unset, .unset, .unset, .unset, .unset, .unset] [(.int a1)]) (fun _ k => XS.iloadN X0.here hx rfl (hb hby at_11) rfl k) ?_
    refine own_S (mkF m 13 #[iv sl, iv a1, iv b1, iv c1, iv d1, iv e1, .val (.int 1), .val (.int 0), .unset, .unset, .unset, .unset, .unset, .unset, .unset, .unset, .unset, .unset, .unset, .unset, .unset, .unset] [(.double (FP.i2d a1))]) (fun _ k => XS.i2dS X0.here hx rfl (hb hby at_12) rfl rfl k) ?_
    obtain ⟨g1, h_g1⟩ : ∃ z : UInt64, z = (FP.i2d a1) := ⟨_, rfl⟩
    refine own_S (T' := s₁) (mkF m 13 #[iv sl, iv a1, iv b1, iv c1, iv d1, iv e1, .val (.int 1), .val (.int 0), .unset, .unset, .unset, .unset, .unset, .unset, .unset, .unset, .unset, .unset, .unset, .unset, .unset, .unset] [(.double g1)]) (fun _ k => by subst h_g1; exact k) ?_
    have n_g1 : NoNaN64 g1 := by rw [h_g1]; exact (i2d_fin _).noNaN
    refine own_S (mkF m 15 #[iv sl, iv a1, iv b1, iv c1, iv d1, iv e1, .val (.int 1), .val (.int 0), .val (.double g1), .second, .unset, .unset, .unset, .unset, .unset, .unset, .unset, .unset, .unset, .unset, .unset, .unset] []) (fun _ k => XS.dstore X0.here hx rfl (hb hby at_13) rfl (l' := #[iv sl, iv a1, iv b1, iv c1, iv d1, iv e1, .val (.int 1), .val (.int 0), .val (.double g1), .second, .unset, .unset, .unset, .unset, .unset, .unset, .unset, .unset, .unset, .unset, .unset, .unset]) rfl k) ?_
    refine own_S (mkF m 16 #[iv sl, iv a1, iv b1, iv c1, iv d1, iv e1, .val (.int 1), .val (.int 0), .val (.double g1), .second, .unset, .unset, .unset, .unset, .unset, .unset, .unset, .unset, .unset, .unset, .unset, .unset] [(.int b1)]) (fun _ k => XS.iloadN X0.here hx rfl (hb hby at_15) rfl k) ?_
    refine own_S (mkF m 17 #[iv sl, iv a1, iv b1, iv c1, iv d1, iv e1, .val (.int 1), .val (.int 0), .val (.double g1), .second, .unset, .unset, .unset, .unset, .unset, .unset, .unset, .unset, .unset, .unset, .unset, .unset] [(.double (FP.i2d b1))]) (fun _ k => XS.i2dS X0.here hx rfl (hb hby at_16) rfl rfl k) ?_
    obtain ⟨s1, h_s1⟩ : ∃ z : UInt64, z = (FP.i2d b1) := ⟨_, rfl⟩
    refine own_S (T' := s₁) (mkF m 17 #[iv sl, iv a1, iv b1, iv c1, iv d1, iv e1, .val (.int 1), .val (.int 0), .val (.double g1), .second, .unset, .unset, .unset, .unset, .unset, .unset, .unset, .unset, .unset, .unset, .unset, .unset] [(.double s1)]) (fun _ k => by subst h_s1; exact k) ?_
    have n_s1 : NoNaN64 s1 := by rw [h_s1]; exact (i2d_fin _).noNaN
    refine own_S (mkF m 19 #[iv sl, iv a1, iv b1, iv c1, iv d1, iv e1, .val (.int 1), .val (.int 0), .val (.double g1), .second, .val (.double s1), .second, .unset, .unset, .unset, .unset, .unset, .unset, .unset, .unset, .unset, .unset] []) (fun _ k => XS.dstore X0.here hx rfl (hb hby at_17) rfl (l' := #[iv sl, iv a1, iv b1, iv c1, iv d1, iv e1, .val (.int 1), .val (.int 0), .val (.double g1), .second, .val (.double s1), .second, .unset, .unset, .unset, .unset, .unset, .unset, .unset, .unset, .unset, .unset]) rfl k) ?_
    refine own_S (mkF m 20 #[iv sl, iv a1, iv b1, iv c1, iv d1, iv e1, .val (.int 1), .val (.int 0), .val (.double g1), .second, .val (.double s1), .second, .unset, .unset, .unset, .unset, .unset, .unset, .unset, .unset, .unset, .unset] [(.int c1)]) (fun _ k => XS.iloadN X0.here hx rfl (hb hby at_19) rfl k) ?_
    refine own_S (mkF m 21 #[iv sl, iv a1, iv b1, iv c1, iv d1, iv e1, .val (.int 1), .val (.int 0), .val (.double g1), .second, .val (.double s1), .second, .unset, .unset, .unset, .unset, .unset, .unset, .unset, .unset, .unset, .unset] [(.double (FP.i2d c1))]) (fun _ k => XS.i2dS X0.here hx rfl (hb hby at_20) rfl rfl k) ?_
    obtain ⟨l1, h_l1⟩ : ∃ z : UInt64, z = (FP.i2d c1) := ⟨_, rfl⟩
    refine own_S (T' := s₁) (mkF m 21 #[iv sl, iv a1, iv b1, iv c1, iv d1, iv e1, .val (.int 1), .val (.int 0), .val (.double g1), .second, .val (.double s1), .second, .unset, .unset, .unset, .unset, .unset, .unset, .unset, .unset, .unset, .unset] [(.double l1)]) (fun _ k => by subst h_l1; exact k) ?_
    have n_l1 : NoNaN64 l1 := by rw [h_l1]; exact (i2d_fin _).noNaN
    refine own_S (mkF m 23 #[iv sl, iv a1, iv b1, iv c1, iv d1, iv e1, .val (.int 1), .val (.int 0), .val (.double g1), .second, .val (.double s1), .second, .val (.double l1), .second, .unset, .unset, .unset, .unset, .unset, .unset, .unset, .unset] []) (fun _ k => XS.dstore X0.here hx rfl (hb hby at_21) rfl (l' := #[iv sl, iv a1, iv b1, iv c1, iv d1, iv e1, .val (.int 1), .val (.int 0), .val (.double g1), .second, .val (.double s1), .second, .val (.double l1), .second, .unset, .unset, .unset, .unset, .unset, .unset, .unset, .unset]) rfl k) ?_
    refine own_S (mkF m 25 #[iv sl, iv a1, iv b1, iv c1, iv d1, iv e1, .val (.int 1), .val (.int 0), .val (.double g1), .second, .val (.double s1), .second, .val (.double l1), .second, .unset, .unset, .unset, .unset, .unset, .unset, .unset, .unset] [(.int d1)]) (fun _ k => XS.iload X0.here hx rfl (hb hby at_23) rfl k) ?_
    refine own_S (mkF m 26 #[iv sl, iv a1, iv b1, iv c1, iv d1, iv e1, .val (.int 1), .val (.int 0), .val (.double g1), .second, .val (.double s1), .second, .val (.double l1), .second, .unset, .unset, .unset, .unset, .unset, .unset, .unset, .unset] [(.double (FP.i2d d1))]) (fun _ k => XS.i2dS X0.here hx rfl (hb hby at_25) rfl rfl k) ?_
    obtain ⟨g2, h_g2⟩ : ∃ z : UInt64, z = (FP.i2d d1) := ⟨_, rfl⟩
    refine own_S (T' := s₁) (mkF m 26 #[iv sl, iv a1, iv b1, iv c1, iv d1, iv e1, .val (.int 1), .val (.int 0), .val (.double g1), .second, .val (.double s1), .second, .val (.double l1), .second, .unset, .unset, .unset, .unset, .unset, .unset, .unset, .unset] [(.double g2)]) (fun _ k => by subst h_g2; exact k) ?_
    have n_g2 : NoNaN64 g2 := by rw [h_g2]; exact (i2d_fin _).noNaN
    refine own_S (mkF m 28 #[iv sl, iv a1, iv b1, iv c1, iv d1, iv e1, .val (.int 1), .val (.int 0), .val (.double g1), .second, .val (.double s1), .second, .val (.double l1), .second, .val (.double g2), .second, .unset, .unset, .unset, .unset, .unset, .unset] []) (fun _ k => XS.dstore X0.here hx rfl (hb hby at_26) rfl (l' := #[iv sl, iv a1, iv b1, iv c1, iv d1, iv e1, .val (.int 1), .val (.int 0), .val (.double g1), .second, .val (.double s1), .second, .val (.double l1), .second, .val (.double g2), .second, .unset, .unset, .unset, .unset, .unset, .unset]) rfl k) ?_
    refine own_S (mkF m 30 #[iv sl, iv a1, iv b1, iv c1, iv d1, iv e1, .val (.int 1), .val (.int 0), .val (.double g1), .second, .val (.double s1), .second, .val (.double l1), .second, .val (.double g2), .second, .unset, .unset, .unset, .unset, .unset, .unset] [(.int e1)]) (fun _ k => XS.iload X0.here hx rfl (hb hby at_28) rfl k) ?_
    refine own_S (mkF m 31 #[iv sl, iv a1, iv b1, iv c1, iv d1, iv e1, .val (.int 1), .val (.int 0), .val (.double g1), .second, .val (.double s1), .second, .val (.double l1), .second, .val (.double g2), .second, .unset, .unset, .unset, .unset, .unset, .unset] [(.double (FP.i2d e1))]) (fun _ k => XS.i2dS X0.here hx rfl (hb hby at_30) rfl rfl k) ?_
    obtain ⟨s2, h_s2⟩ : ∃ z : UInt64, z = (FP.i2d e1) := ⟨_, rfl⟩
    refine own_S (T' := s₁) (mkF m 31 #[iv sl, iv a1, iv b1, iv c1, iv d1, iv e1, .val (.int 1), .val (.int 0), .val (.double g1), .second, .val (.double s1), .second, .val (.double l1), .second, .val (.double g2), .second, .unset, .unset, .unset, .unset, .unset, .unset] [(.double s2)]) (fun _ k => by subst h_s2; exact k) ?_
    have n_s2 : NoNaN64 s2 := by rw [h_s2]; exact (i2d_fin _).noNaN
    refine own_S (mkF m 33 #[iv sl, iv a1, iv b1, iv c1, iv d1, iv e1, .val (.int 1), .val (.int 0), .val (.double g1), .second, .val (.double s1), .second, .val (.double l1), .second, .val (.double g2), .second, .val (.double s2), .second, .unset, .unset, .unset, .unset] []) (fun _ k => XS.dstore X0.here hx rfl (hb hby at_31) rfl (l' := #[iv sl, iv a1, iv b1, iv c1, iv d1, iv e1, .val (.int 1), .val (.int 0), .val (.double g1), .second, .val (.double s1), .second, .val (.double l1), .second, .val (.double g2), .second, .val (.double s2), .second, .unset, .unset, .unset, .unset]) rfl k) ?_
    refine own_S (mkF m 34 #[iv sl, iv a1, iv b1, iv c1, iv d1, iv e1, .val (.int 1), .val (.int 0), .val (.double g1), .second, .val (.double s1), .second, .val (.double l1), .second, .val (.double g2), .second, .val (.double s2), .second, .unset, .unset, .unset, .unset] [(.int sl)]) (fun _ k => XS.iloadN X0.here hx rfl (hb hby at_33) rfl k) ?_
    refine own_S (mkF m 35 #[iv sl, iv a1, iv b1, iv c1, iv d1, iv e1, .val (.int 1), .val (.int 0), .val (.double g1), .second, .val (.double s1), .second, .val (.double l1), .second, .val (.double g2), .second, .val (.double s2), .second, .unset, .unset, .unset, .unset] [(.int 1), (.int sl)]) (fun _ k => XS.iconst X0.here hx rfl (hb hby at_34) k) ?_
    refine own_S (mkF m 36 #[iv sl, iv a1, iv b1, iv c1, iv d1, iv e1, .val (.int 1), .val (.int 0), .val (.double g1), .second, .val (.double s1), .second, .val (.double l1), .second, .val (.double g2), .second, .val (.double s2), .second, .unset, .unset, .unset, .unset] [(.int (sl >>> ((1 : Int32) &&& 31)))]) (fun _ k => XS.ishr X0.here hx rfl (hb hby at_35) rfl k) ?_
    refine own_S (mkF m 37 #[iv sl, iv a1, iv b1, iv c1, iv d1, iv e1, .val (.int 1), .val (.int 0), .val (.double g1), .second, .val (.double s1), .second, .val (.double l1), .second, .val (.double g2), .second, .val (.double s2), .second, .unset, .unset, .unset, .unset] [(.double (FP.i2d (sl >>> ((1 : Int32) &&& 31))))]) (fun _ k => XS.i2dS X0.here hx rfl (hb hby at_36) rfl rfl k) ?_
    obtain ⟨l2, h_l2⟩ : ∃ z : UInt64, z = (FP.i2d (sl >>> ((1 : Int32) &&& 31))) := ⟨_, rfl⟩
    refine own_S (T' := s₁) (mkF m 37 #[iv sl, iv a1, iv b1, iv c1, iv d1, iv e1, .val (.int 1), .val (.int 0), .val (.double g1), .second, .val (.double s1), .second, .val (.double l1), .second, .val (.double g2), .second, .val (.double s2), .second, .unset, .unset, .unset, .unset] [(.double l2)]) (fun _ k => by subst h_l2; exact k) ?_
    have n_l2 : NoNaN64 l2 := by rw [h_l2]; exact (i2d_fin _).noNaN
    have n_z : NoNaN64 (0 : UInt64) := own_nz
    have n_o : NoNaN64 FP.dconst1 := own_no
    refine own_S (mkF m 39 #[iv sl, iv a1, iv b1, iv c1, iv d1, iv e1, .val (.int 1), .val (.int 0), .val (.double g1), .second, .val (.double s1), .second, .val (.double l1), .second, .val (.double g2), .second, .val (.double s2), .second, .val (.double l2), .second, .unset, .unset] []) (fun _ k => XS.dstore X0.here hx rfl (hb hby at_37) rfl (l' := #[iv sl, iv a1, iv b1, iv c1, iv d1, iv e1, .val (.int 1), .val (.int 0), .val (.double g1), .second, .val (.double s1), .second, .val (.double l1), .second, .val (.double g2), .second, .val (.double s2), .second, .val (.double l2), .second, .unset, .unset]) rfl k) ?_
    obtain ⟨T140, h140, X140, e140, E140, A140, D140, -, st140⟩ := newO X0 hx hZ hown (own_g hw (i := 0) rfl) (own_g hw (i := 1) rfl) (own_g hw (i := 2) rfl) e0 (g := (mkF m 39 #[iv sl, iv a1, iv b1, iv c1, iv d1, iv e1, .val (.int 1), .val (.int 0), .val (.double g1), .second, .val (.double s1), .second, .val (.double l1), .second, .val (.double g2), .second, .val (.double s2), .second, .val (.double l2), .second, .unset, .unset] [])) rfl (hb hby at_39) (by decide) (by decide)
    obtain ⟨pa, g140⟩ : ∃ z, z = h0.size := ⟨_, rfl⟩
    rw [← g140] at A140 D140 st140
    have ge_pa : n0 ≤ pa := Nat.le_trans Z0 (Nat.le_of_eq g140.symm)
    have Z140 : n0 ≤ h140.size := Nat.le_trans Z0 E140.1
    have F141 : Fld Z h140 pa "com/example/accrue/accrue/exact/Paths" "gathered" "[D" .null := D140 (Or.inl (own_g hw (i := 11) rfl)) (ty := (.array .double)) (by decide)
    have F142 : Fld Z h140 pa "com/example/accrue/accrue/exact/Paths" "staying" "[D" .null := D140 (Or.inl (own_g hw (i := 13) rfl)) (ty := (.array .double)) (by decide)
    have F143 : Fld Z h140 pa "com/example/accrue/accrue/exact/Paths" "leaving" "[D" .null := D140 (Or.inl (own_g hw (i := 15) rfl)) (ty := (.array .double)) (by decide)
    have F144 : Fld Z h140 pa "com/example/accrue/accrue/exact/Paths" "nextGathered" "[D" .null := D140 (Or.inl (own_g hw (i := 30) rfl)) (ty := (.array .double)) (by decide)
    have F145 : Fld Z h140 pa "com/example/accrue/accrue/exact/Paths" "nextStaying" "[D" .null := D140 (Or.inl (own_g hw (i := 32) rfl)) (ty := (.array .double)) (by decide)
    have F146 : Fld Z h140 pa "com/example/accrue/accrue/exact/Paths" "nextLeaving" "[D" .null := D140 (Or.inl (own_g hw (i := 34) rfl)) (ty := (.array .double)) (by decide)
    refine own_S (mkF m 42 #[iv sl, iv a1, iv b1, iv c1, iv d1, iv e1, .val (.int 1), .val (.int 0), .val (.double g1), .second, .val (.double s1), .second, .val (.double l1), .second, .val (.double g2), .second, .val (.double s2), .second, .val (.double l2), .second, .unset, .unset] [(.ref pa)]) st140 ?_
    refine own_S (mkF m 43 #[iv sl, iv a1, iv b1, iv c1, iv d1, iv e1, .val (.int 1), .val (.int 0), .val (.double g1), .second, .val (.double s1), .second, .val (.double l1), .second, .val (.double g2), .second, .val (.double s2), .second, .val (.double l2), .second, .unset, .unset] [(.ref pa), (.ref pa)]) (fun _ k => XS.dup X140.here hx rfl (hb hby at_42) rfl rfl k) ?_
    refine own_S (mkF m 44 #[iv sl, iv a1, iv b1, iv c1, iv d1, iv e1, .val (.int 1), .val (.int 0), .val (.double g1), .second, .val (.double s1), .second, .val (.double l1), .second, .val (.double g2), .second, .val (.double s2), .second, .val (.double l2), .second, .unset, .unset] [(.int 2), (.ref pa), (.ref pa)]) (fun _ k => XS.iconst X140.here hx rfl (hb hby at_43) k) ?_
    obtain ⟨_, _, ⟨T147, L147, k147, n147⟩, -, X147, ⟨Lc147, hQ147, l147, y147, z147⟩, st147⟩ := X140.specialBack hx (y := own_y1) rfl hown (mvT hZ (own_g hw (i := 3) rfl)) (mvT hZ (own_g hw (i := 4) rfl)) (mvT hZ (own_g hw (i := 5) rfl)) (by decide) (backOf (W := 1) (own_rmini l Z a0 hw [] (pa) h140 n0 Z140 A140 F141 F142 F143 F144 F145 F146 ge_pa) hZ (own_g hw (i := 5) rfl) (own_g hw (i := 2) rfl) (by decide) (by decide)) (g := (mkF m 44 #[iv sl, iv a1, iv b1, iv c1, iv d1, iv e1, .val (.int 1), .val (.int 0), .val (.double g1), .second, .val (.double s1), .second, .val (.double l1), .second, .val (.double g2), .second, .val (.double s2), .second, .val (.double l2), .second, .unset, .unset] [(.int 2), (.ref pa), (.ref pa)])) rfl (by rw [hml]; rfl) (Steps.refl _) (a := pa) (argsL := [(.int 2)]) (rest := [(.ref pa)]) (lenOf own_pd__I_V rfl) rfl (by show 2 * 0 + _ ≤ _; exact Nat.le_of_eq rfl) (hb hby at_44) (fun _ _ => ⟨rfl, e140, (by decide : 1 + 6 ≤ _), (by decide : 6 + 12 ≤ _)⟩)
    dsimp only [Pt.U, Pt.locs, Pt.cells, Pt.slots] at X147 l147 y147 z147 st147 hQ147
    subst l147 y147 z147
    obtain ⟨ga, sa, la, ng, ns, nl, k0, k1, k2, k3, k4, k5, rfl, N147q, K147q, F148, F149, F150, F151, F152, F153, F154, F155, F156, F157, F158, F159, F160, pp161, pp162, pp163, pp164, pp165, pp166, pp167, pp168, pp169, pp170, pp171, pp172, pp173, pp174, pp175, pp176, pp177, pp178, pp179, pp180, pp181⟩ := hQ147
    have N147 := Fr.app N0 N147q
    refine own_S (mkF m 47 #[iv sl, iv a1, iv b1, iv c1, iv d1, iv e1, .val (.int 1), .val (.int 0), .val (.double g1), .second, .val (.double s1), .second, .val (.double l1), .second, .val (.double g2), .second, .val (.double s2), .second, .val (.double l2), .second, .unset, .unset] [(.ref pa)]) (fun _ k => st147.trans k) ?_
    have n182 : pa ≠ ga := Nat.ne_of_lt (Nat.lt_of_lt_of_le A140.lt pp161)
    have ge_ga : n0 ≤ ga := Nat.le_trans Z140 pp161
    have n183 : pa ≠ sa := Nat.ne_of_lt (Nat.lt_of_lt_of_le A140.lt pp162)
    have ge_sa : n0 ≤ sa := Nat.le_trans Z140 pp162
    have n184 : pa ≠ la := Nat.ne_of_lt (Nat.lt_of_lt_of_le A140.lt pp163)
    have ge_la : n0 ≤ la := Nat.le_trans Z140 pp163
    have n185 : pa ≠ ng := Nat.ne_of_lt (Nat.lt_of_lt_of_le A140.lt pp164)
    have ge_ng : n0 ≤ ng := Nat.le_trans Z140 pp164
    have n186 : pa ≠ ns := Nat.ne_of_lt (Nat.lt_of_lt_of_le A140.lt pp165)
    have ge_ns : n0 ≤ ns := Nat.le_trans Z140 pp165
    have n187 : pa ≠ nl := Nat.ne_of_lt (Nat.lt_of_lt_of_le A140.lt pp166)
    have ge_nl : n0 ≤ nl := Nat.le_trans Z140 pp166
    have Z147 : n0 ≤ T147.heap.size := Nat.le_trans Z140 K147q.1
    refine own_S (mkF m 49 #[iv sl, iv a1, iv b1, iv c1, iv d1, iv e1, .val (.int 1), .val (.int 0), .val (.double g1), .second, .val (.double s1), .second, .val (.double l1), .second, .val (.double g2), .second, .val (.double s2), .second, .val (.double l2), .second, rv pa, .unset] []) (fun _ k => XS.astore X147.here hx rfl (hb hby at_47) rfl rfl (l' := #[iv sl, iv a1, iv b1, iv c1, iv d1, iv e1, .val (.int 1), .val (.int 0), .val (.double g1), .second, .val (.double s1), .second, .val (.double l1), .second, .val (.double g2), .second, .val (.double s2), .second, .val (.double l2), .second, rv pa, .unset]) rfl k) ?_
    refine own_S (mkF m 51 #[iv sl, iv a1, iv b1, iv c1, iv d1, iv e1, .val (.int 1), .val (.int 0), .val (.double g1), .second, .val (.double s1), .second, .val (.double l1), .second, .val (.double g2), .second, .val (.double s2), .second, .val (.double l2), .second, rv pa, .unset] [(.ref pa)]) (fun _ k => XS.aload X147.here hx rfl (hb hby at_49) rfl rfl k) ?_
    refine own_S (mkF m 53 #[iv sl, iv a1, iv b1, iv c1, iv d1, iv e1, .val (.int 1), .val (.int 0), .val (.double g1), .second, .val (.double s1), .second, .val (.double l1), .second, .val (.double g2), .second, .val (.double s2), .second, .val (.double l2), .second, rv pa, .unset] [(.int 1), (.ref pa)]) (fun _ k => XS.iload X147.here hx rfl (hb hby at_51) rfl k) ?_
    refine own_S (mkF m 55 #[iv sl, iv a1, iv b1, iv c1, iv d1, iv e1, .val (.int 1), .val (.int 0), .val (.double g1), .second, .val (.double s1), .second, .val (.double l1), .second, .val (.double g2), .second, .val (.double s2), .second, .val (.double l2), .second, rv pa, .unset] [(.double g1), (.int 1), (.ref pa)]) (fun _ k => XS.dload X147.here hx rfl (hb hby at_53) rfl k) ?_
    refine own_S (mkF m 57 #[iv sl, iv a1, iv b1, iv c1, iv d1, iv e1, .val (.int 1), .val (.int 0), .val (.double g1), .second, .val (.double s1), .second, .val (.double l1), .second, .val (.double g2), .second, .val (.double s2), .second, .val (.double l2), .second, rv pa, .unset] [(.double s1), (.double g1), (.int 1), (.ref pa)]) (fun _ k => XS.dload X147.here hx rfl (hb hby at_55) rfl k) ?_
    refine own_S (mkF m 59 #[iv sl, iv a1, iv b1, iv c1, iv d1, iv e1, .val (.int 1), .val (.int 0), .val (.double g1), .second, .val (.double s1), .second, .val (.double l1), .second, .val (.double g2), .second, .val (.double s2), .second, .val (.double l2), .second, rv pa, .unset] [(.double l1), (.double s1), (.double g1), (.int 1), (.ref pa)]) (fun _ k => XS.dload X147.here hx rfl (hb hby at_57) rfl k) ?_
    obtain ⟨cq188, kq188, q188a, q188b, q188c⟩ := isOf hZ rfl F148
    obtain ⟨_, _, ⟨T188, L188, k188, n188⟩, -, X188, ⟨Lc188, hQ188, l188, y188, z188⟩, st188⟩ := X147.virtualBack hx (y := own_y2) (z := own_y2) hown (mvT hZ (own_g hw (i := 35) rfl)) (mvT hZ (own_g hw (i := 36) rfl)) (notFace_of_selects (args := #[]) (mvT hZ (own_g hw (i := 38) rfl))) (mvT hZ (own_g hw (i := 38) rfl)) (mvT hZ (own_g hw (i := 37) rfl)) (by decide) (backOf (W := 0) (own_rmsn1 l Z a0 hw [] (pa) (ng) (ns) (nl) (k3) (k4) (k5) (g1) (s1) (l1) ((.double (0 : UInt64))) ((.double (0 : UInt64))) ((.double FP.dconst1)) ((.double (0 : UInt64))) ((.double (0 : UInt64))) ((.double FP.dconst1)) T147.heap n0 Z147 F152 F153 F154 F158 F159 F160 ge_ng ge_ns ge_nl n185 n186 n187 pp179 pp180 pp181) hZ (own_g hw (i := 39) rfl) (own_g hw (i := 2) rfl) (by decide) (by decide)) q188a q188c (g := (mkF m 59 #[iv sl, iv a1, iv b1, iv c1, iv d1, iv e1, .val (.int 1), .val (.int 0), .val (.double g1), .second, .val (.double s1), .second, .val (.double l1), .second, .val (.double g2), .second, .val (.double s2), .second, .val (.double l2), .second, rv pa, .unset] [(.double l1), (.double s1), (.double g1), (.int 1), (.ref pa)])) rfl (by rw [hml]; rfl) (Steps.refl _) (argsL := [(.int 1), (.double g1), (.double s1), (.double l1)]) (rest := []) (lenOf own_pd__IDDD_V rfl) rfl (by show 2 * 0 + _ ≤ _; exact Nat.le_of_eq rfl) (hb hby at_59) (fun _ _ => ⟨rfl, rfl, (by decide : 7 + 0 ≤ _), (by decide : 18 + 0 ≤ _)⟩)
    dsimp only [Pt.U, Pt.locs, Pt.cells, Pt.slots] at X188 l188 y188 z188 st188 hQ188
    subst l188 y188 z188
    obtain ⟨rfl, N188q, K188q, F189, F190, F191⟩ := hQ188
    have N188 := Fr.app N147 N188q
    refine own_S (mkF m 62 #[iv sl, iv a1, iv b1, iv c1, iv d1, iv e1, .val (.int 1), .val (.int 0), .val (.double g1), .second, .val (.double s1), .second, .val (.double l1), .second, .val (.double g2), .second, .val (.double s2), .second, .val (.double l2), .second, rv pa, .unset] []) (fun _ k => st188.trans k) ?_
    have F192 := F148.keep K188q
    have F193 := F149.keep K188q (ninS n185 (ninS n186 (ninS n187 nin0)))
    have F194 := F150.keep K188q (ninS n185 (ninS n186 (ninS n187 nin0)))
    have F195 := F151.keep K188q (ninS n185 (ninS n186 (ninS n187 nin0)))
    have F196 := F152.keep K188q (ninS n185 (ninS n186 (ninS n187 nin0)))
    have F197 := F153.keep K188q (ninS n185 (ninS n186 (ninS n187 nin0)))
    have F198 := F154.keep K188q (ninS n185 (ninS n186 (ninS n187 nin0)))
    have F199 := F155.keep K188q (ninS pp169 (ninS pp170 (ninS pp171 nin0)))
    have F200 := F156.keep K188q (ninS pp173 (ninS pp174 (ninS pp175 nin0)))
    have F201 := F157.keep K188q (ninS pp176 (ninS pp177 (ninS pp178 nin0)))
    have Z188 : n0 ≤ T188.heap.size := Nat.le_trans Z147 K188q.1
    refine own_S (mkF m 64 #[iv sl, iv a1, iv b1, iv c1, iv d1, iv e1, .val (.int 1), .val (.int 0), .val (.double g1), .second, .val (.double s1), .second, .val (.double l1), .second, .val (.double g2), .second, .val (.double s2), .second, .val (.double l2), .second, rv pa, .unset] [(.ref pa)]) (fun _ k => XS.aload X188.here hx rfl (hb hby at_62) rfl rfl k) ?_
    obtain ⟨cq202, kq202, q202a, q202b, q202c⟩ := isOf hZ rfl F192
    obtain ⟨_, _, ⟨T202, L202, k202, n202⟩, -, X202, ⟨Lc202, hQ202, l202, y202, z202⟩, st202⟩ := X188.virtualBack hx (y := own_y4) (z := own_y4) hown (mvT hZ (own_g hw (i := 40) rfl)) (mvT hZ (own_g hw (i := 41) rfl)) (notFace_of_selects (args := #[]) (mvT hZ (own_g hw (i := 43) rfl))) (mvT hZ (own_g hw (i := 43) rfl)) (mvT hZ (own_g hw (i := 42) rfl)) (by decide) (backOf (W := 0) (own_rmadv l Z a0 hw [] (pa) (ga) (sa) (la) (ng) (ns) (nl) T188.heap n0 Z188 F192 F193 F194 F195 F196 F197 F198 ge_pa) hZ (own_g hw (i := 44) rfl) (own_g hw (i := 2) rfl) (by decide) (by decide)) q202a q202c (g := (mkF m 64 #[iv sl, iv a1, iv b1, iv c1, iv d1, iv e1, .val (.int 1), .val (.int 0), .val (.double g1), .second, .val (.double s1), .second, .val (.double l1), .second, .val (.double g2), .second, .val (.double s2), .second, .val (.double l2), .second, rv pa, .unset] [(.ref pa)])) rfl (by rw [hml]; rfl) (Steps.refl _) (argsL := []) (rest := []) (lenOf own_pd___V rfl) rfl (by show 2 * 0 + _ ≤ _; exact Nat.le_of_eq rfl) (hb hby at_64) (fun _ _ => ⟨rfl, rfl, (by decide : 7 + 0 ≤ _), (by decide : 18 + 0 ≤ _)⟩)
    dsimp only [Pt.U, Pt.locs, Pt.cells, Pt.slots] at X202 l202 y202 z202 st202 hQ202
    subst l202 y202 z202
    obtain ⟨rfl, N202q, K202q, F203, F204, F205, F206, F207, F208, F209⟩ := hQ202
    have N202 := Fr.app N188 N202q
    refine own_S (mkF m 67 #[iv sl, iv a1, iv b1, iv c1, iv d1, iv e1, .val (.int 1), .val (.int 0), .val (.double g1), .second, .val (.double s1), .second, .val (.double l1), .second, .val (.double g2), .second, .val (.double s2), .second, .val (.double l2), .second, rv pa, .unset] []) (fun _ k => st202.trans k) ?_
    have F210 := F199.keep K202q (ninS (Ne.symm n182) nin0)
    have F211 := F200.keep K202q (ninS (Ne.symm n183) nin0)
    have F212 := F201.keep K202q (ninS (Ne.symm n184) nin0)
    have F213 := F189.keep K202q (ninS (Ne.symm n185) nin0)
    have F214 := F190.keep K202q (ninS (Ne.symm n186) nin0)
    have F215 := F191.keep K202q (ninS (Ne.symm n187) nin0)
    have Z202 : n0 ≤ T202.heap.size := Nat.le_trans Z188 K202q.1
    refine own_S (mkF m 69 #[iv sl, iv a1, iv b1, iv c1, iv d1, iv e1, .val (.int 1), .val (.int 0), .val (.double g1), .second, .val (.double s1), .second, .val (.double l1), .second, .val (.double g2), .second, .val (.double s2), .second, .val (.double l2), .second, rv pa, .unset] [(.ref pa)]) (fun _ k => XS.aload X202.here hx rfl (hb hby at_67) rfl rfl k) ?_
    refine own_S (mkF m 71 #[iv sl, iv a1, iv b1, iv c1, iv d1, iv e1, .val (.int 1), .val (.int 0), .val (.double g1), .second, .val (.double s1), .second, .val (.double l1), .second, .val (.double g2), .second, .val (.double s2), .second, .val (.double l2), .second, rv pa, .unset] [(.int 1), (.ref pa)]) (fun _ k => XS.iload X202.here hx rfl (hb hby at_69) rfl k) ?_
    refine own_S (mkF m 73 #[iv sl, iv a1, iv b1, iv c1, iv d1, iv e1, .val (.int 1), .val (.int 0), .val (.double g1), .second, .val (.double s1), .second, .val (.double l1), .second, .val (.double g2), .second, .val (.double s2), .second, .val (.double l2), .second, rv pa, .unset] [(.double g1), (.int 1), (.ref pa)]) (fun _ k => XS.dload X202.here hx rfl (hb hby at_71) rfl k) ?_
    refine own_S (mkF m 75 #[iv sl, iv a1, iv b1, iv c1, iv d1, iv e1, .val (.int 1), .val (.int 0), .val (.double g1), .second, .val (.double s1), .second, .val (.double l1), .second, .val (.double g2), .second, .val (.double s2), .second, .val (.double l2), .second, rv pa, .unset] [(.double s1), (.double g1), (.int 1), (.ref pa)]) (fun _ k => XS.dload X202.here hx rfl (hb hby at_73) rfl k) ?_
    refine own_S (mkF m 77 #[iv sl, iv a1, iv b1, iv c1, iv d1, iv e1, .val (.int 1), .val (.int 0), .val (.double g1), .second, .val (.double s1), .second, .val (.double l1), .second, .val (.double g2), .second, .val (.double s2), .second, .val (.double l2), .second, rv pa, .unset] [(.double l1), (.double s1), (.double g1), (.int 1), (.ref pa)]) (fun _ k => XS.dload X202.here hx rfl (hb hby at_75) rfl k) ?_
    obtain ⟨_, _, ⟨T216, L216, k216, n216⟩, -, X216, ⟨Lc216, hQ216, l216, y216, z216⟩, st216⟩ := Jvm.LawKit.callS X202 hx (y := own_y3) hown (mvT hZ (own_g hw (i := 45) rfl)) (mvT hZ (own_g hw (i := 46) rfl)) (mvT hZ (own_g hw (i := 47) rfl)) (mvT hZ (own_g hw (i := 48) rfl)) (by decide) (backOf (W := 0) (own_rmis1 l Z a0 hw [] (pa) (ng) (ns) (nl) (k3) (k4) (k5) (g1) (s1) (l1) ((.double (0 : UInt64))) ((.double (0 : UInt64))) ((.double FP.dconst1)) T202.heap n0 Z202 F204 F205 F206 F213 F214 F215 n_g1 n_s1 n_l1) hZ (own_g hw (i := 48) rfl) (own_g hw (i := 47) rfl) (by decide) (by decide)) (g := (mkF m 77 #[iv sl, iv a1, iv b1, iv c1, iv d1, iv e1, .val (.int 1), .val (.int 0), .val (.double g1), .second, .val (.double s1), .second, .val (.double l1), .second, .val (.double g2), .second, .val (.double s2), .second, .val (.double l2), .second, rv pa, .unset] [(.double l1), (.double s1), (.double g1), (.int 1), (.ref pa)])) rfl (by rw [hml]; rfl) (argsL := [(.ref pa), (.int 1), (.double g1), (.double s1), (.double l1)]) (rest := []) (lenOf own_pd__Lcom_example_accrue_accrue_exact_Paths_IDDD_Z rfl) rfl (by show 2 * 0 + _ ≤ _; exact Nat.le_of_eq rfl) (hb hby at_77) (fun _ _ => ⟨rfl, rfl, (by decide : 7 + 0 ≤ _), (by decide : 18 + 0 ≤ _)⟩)
    dsimp only [Pt.U, Pt.locs, Pt.cells, Pt.slots] at X216 l216 y216 z216 st216 hQ216
    subst l216 y216 z216
    obtain ⟨rfl, N216q, e216⟩ := hQ216
    have N216 := Fr.app N202 N216q
    refine own_S (mkF m 80 #[iv sl, iv a1, iv b1, iv c1, iv d1, iv e1, .val (.int 1), .val (.int 0), .val (.double g1), .second, .val (.double s1), .second, .val (.double l1), .second, .val (.double g2), .second, .val (.double s2), .second, .val (.double l2), .second, rv pa, .unset] [(.int 1)]) (fun _ k => st216 _ k) ?_
    have hc217 : ¬ ((1 : Int32) = (0 : Int32)) := by decide
    refine own_S (mkF m 83 #[iv sl, iv a1, iv b1, iv c1, iv d1, iv e1, .val (.int 1), .val (.int 0), .val (.double g1), .second, .val (.double s1), .second, .val (.double l1), .second, .val (.double g2), .second, .val (.double s2), .second, .val (.double l2), .second, rv pa, .unset] []) (fun _ k => XS.ifNo X216.here hx rfl (hb hby at_80) rfl ((if0 _ _).trans (feq hc217).1) k) ?_
    refine own_S (mkF m 85 #[iv sl, iv a1, iv b1, iv c1, iv d1, iv e1, .val (.int 1), .val (.int 0), .val (.double g1), .second, .val (.double s1), .second, .val (.double l1), .second, .val (.double g2), .second, .val (.double s2), .second, .val (.double l2), .second, rv pa, .unset] [(.ref pa)]) (fun _ k => XS.aload X216.here hx rfl (hb hby at_83) rfl rfl k) ?_
    refine own_S (mkF m 87 #[iv sl, iv a1, iv b1, iv c1, iv d1, iv e1, .val (.int 1), .val (.int 0), .val (.double g1), .second, .val (.double s1), .second, .val (.double l1), .second, .val (.double g2), .second, .val (.double s2), .second, .val (.double l2), .second, rv pa, .unset] [(.int 0), (.ref pa)]) (fun _ k => XS.iload X216.here hx rfl (hb hby at_85) rfl k) ?_
    refine own_S (mkF m 88 #[iv sl, iv a1, iv b1, iv c1, iv d1, iv e1, .val (.int 1), .val (.int 0), .val (.double g1), .second, .val (.double s1), .second, .val (.double l1), .second, .val (.double g2), .second, .val (.double s2), .second, .val (.double l2), .second, rv pa, .unset] [(.double (0 : UInt64)), (.int 0), (.ref pa)]) (fun _ k => XS.dconst0 X216.here hx rfl (hb hby at_87) rfl k) ?_
    refine own_S (mkF m 89 #[iv sl, iv a1, iv b1, iv c1, iv d1, iv e1, .val (.int 1), .val (.int 0), .val (.double g1), .second, .val (.double s1), .second, .val (.double l1), .second, .val (.double g2), .second, .val (.double s2), .second, .val (.double l2), .second, rv pa, .unset] [(.double (0 : UInt64)), (.double (0 : UInt64)), (.int 0), (.ref pa)]) (fun _ k => XS.dconst0 X216.here hx rfl (hb hby at_88) rfl k) ?_
    refine own_S (mkF m 90 #[iv sl, iv a1, iv b1, iv c1, iv d1, iv e1, .val (.int 1), .val (.int 0), .val (.double g1), .second, .val (.double s1), .second, .val (.double l1), .second, .val (.double g2), .second, .val (.double s2), .second, .val (.double l2), .second, rv pa, .unset] [(.double FP.dconst1), (.double (0 : UInt64)), (.double (0 : UInt64)), (.int 0), (.ref pa)]) (fun _ k => XS.dconst1 X216.here hx rfl (hb hby at_89) rfl k) ?_
    obtain ⟨_, _, ⟨T218, L218, k218, n218⟩, -, X218, ⟨Lc218, hQ218, l218, y218, z218⟩, st218⟩ := Jvm.LawKit.callS X216 hx (y := own_y3) hown (mvT hZ (own_g hw (i := 45) rfl)) (mvT hZ (own_g hw (i := 46) rfl)) (mvT hZ (own_g hw (i := 47) rfl)) (mvT hZ (own_g hw (i := 48) rfl)) (by decide) (backOf (W := 0) (own_rmis0 l Z a0 hw [] (pa) (ng) (ns) (nl) (k3) (k4) (k5) ((0 : UInt64)) ((0 : UInt64)) (FP.dconst1) ((.double g1)) ((.double s1)) ((.double l1)) T202.heap n0 Z202 F204 F205 F206 F213 F214 F215 n_z n_z n_o) hZ (own_g hw (i := 48) rfl) (own_g hw (i := 47) rfl) (by decide) (by decide)) (g := (mkF m 90 #[iv sl, iv a1, iv b1, iv c1, iv d1, iv e1, .val (.int 1), .val (.int 0), .val (.double g1), .second, .val (.double s1), .second, .val (.double l1), .second, .val (.double g2), .second, .val (.double s2), .second, .val (.double l2), .second, rv pa, .unset] [(.double FP.dconst1), (.double (0 : UInt64)), (.double (0 : UInt64)), (.int 0), (.ref pa)])) rfl (by rw [hml]; rfl) (argsL := [(.ref pa), (.int 0), (.double (0 : UInt64)), (.double (0 : UInt64)), (.double FP.dconst1)]) (rest := []) (lenOf own_pd__Lcom_example_accrue_accrue_exact_Paths_IDDD_Z rfl) rfl (by show 2 * 0 + _ ≤ _; exact Nat.le_of_eq rfl) (hb hby at_90) (fun _ _ => ⟨rfl, e216, (by decide : 7 + 0 ≤ _), (by decide : 18 + 0 ≤ _)⟩)
    dsimp only [Pt.U, Pt.locs, Pt.cells, Pt.slots] at X218 l218 y218 z218 st218 hQ218
    subst l218 y218 z218
    obtain ⟨rfl, N218q, e218⟩ := hQ218
    have N218 := Fr.app N216 N218q
    refine own_S (mkF m 93 #[iv sl, iv a1, iv b1, iv c1, iv d1, iv e1, .val (.int 1), .val (.int 0), .val (.double g1), .second, .val (.double s1), .second, .val (.double l1), .second, .val (.double g2), .second, .val (.double s2), .second, .val (.double l2), .second, rv pa, .unset] [(.int 1)]) (fun _ k => st218 _ k) ?_
    have hc219 : ¬ ((1 : Int32) = (0 : Int32)) := by decide
    refine own_S (mkF m 96 #[iv sl, iv a1, iv b1, iv c1, iv d1, iv e1, .val (.int 1), .val (.int 0), .val (.double g1), .second, .val (.double s1), .second, .val (.double l1), .second, .val (.double g2), .second, .val (.double s2), .second, .val (.double l2), .second, rv pa, .unset] []) (fun _ k => XS.ifNo X218.here hx rfl (hb hby at_93) rfl ((if0 _ _).trans (feq hc219).1) k) ?_
    refine own_S (mkF m 97 #[iv sl, iv a1, iv b1, iv c1, iv d1, iv e1, .val (.int 1), .val (.int 0), .val (.double g1), .second, .val (.double s1), .second, .val (.double l1), .second, .val (.double g2), .second, .val (.double s2), .second, .val (.double l2), .second, rv pa, .unset] [(.int 1)]) (fun _ k => XS.iconst X218.here hx rfl (hb hby at_96) k) ?_
    refine own_S (mkF m 101 #[iv sl, iv a1, iv b1, iv c1, iv d1, iv e1, .val (.int 1), .val (.int 0), .val (.double g1), .second, .val (.double s1), .second, .val (.double l1), .second, .val (.double g2), .second, .val (.double s2), .second, .val (.double l2), .second, rv pa, .unset] [(.int 1)]) (fun _ k => XS.goto X218.here hx rfl (pc0 := 97) (pc' := 101) rfl (hb hby at_97) (by decide) (by decide) k) ?_
    refine own_S (mkF m 103 #[iv sl, iv a1, iv b1, iv c1, iv d1, iv e1, .val (.int 1), .val (.int 0), .val (.double g1), .second, .val (.double s1), .second, .val (.double l1), .second, .val (.double g2), .second, .val (.double s2), .second, .val (.double l2), .second, rv pa, .val (.int 1)] []) (fun _ k => XS.istore X218.here hx rfl (hb hby at_101) rfl (l' := #[iv sl, iv a1, iv b1, iv c1, iv d1, iv e1, .val (.int 1), .val (.int 0), .val (.double g1), .second, .val (.double s1), .second, .val (.double l1), .second, .val (.double g2), .second, .val (.double s2), .second, .val (.double l2), .second, rv pa, .val (.int 1)]) rfl k) ?_
    refine own_S (mkF m 105 #[iv sl, iv a1, iv b1, iv c1, iv d1, iv e1, .val (.int 1), .val (.int 0), .val (.double g1), .second, .val (.double s1), .second, .val (.double l1), .second, .val (.double g2), .second, .val (.double s2), .second, .val (.double l2), .second, rv pa, .val (.int 1)] [(.ref pa)]) (fun _ k => XS.aload X218.here hx rfl (hb hby at_103) rfl rfl k) ?_
    refine own_S (mkF m 107 #[iv sl, iv a1, iv b1, iv c1, iv d1, iv e1, .val (.int 1), .val (.int 0), .val (.double g1), .second, .val (.double s1), .second, .val (.double l1), .second, .val (.double g2), .second, .val (.double s2), .second, .val (.double l2), .second, rv pa, .val (.int 1)] [(.int 1), (.ref pa)]) (fun _ k => XS.iload X218.here hx rfl (hb hby at_105) rfl k) ?_
    refine own_S (mkF m 109 #[iv sl, iv a1, iv b1, iv c1, iv d1, iv e1, .val (.int 1), .val (.int 0), .val (.double g1), .second, .val (.double s1), .second, .val (.double l1), .second, .val (.double g2), .second, .val (.double s2), .second, .val (.double l2), .second, rv pa, .val (.int 1)] [(.double g2), (.int 1), (.ref pa)]) (fun _ k => XS.dload X218.here hx rfl (hb hby at_107) rfl k) ?_
    refine own_S (mkF m 111 #[iv sl, iv a1, iv b1, iv c1, iv d1, iv e1, .val (.int 1), .val (.int 0), .val (.double g1), .second, .val (.double s1), .second, .val (.double l1), .second, .val (.double g2), .second, .val (.double s2), .second, .val (.double l2), .second, rv pa, .val (.int 1)] [(.double s2), (.double g2), (.int 1), (.ref pa)]) (fun _ k => XS.dload X218.here hx rfl (hb hby at_109) rfl k) ?_
    refine own_S (mkF m 113 #[iv sl, iv a1, iv b1, iv c1, iv d1, iv e1, .val (.int 1), .val (.int 0), .val (.double g1), .second, .val (.double s1), .second, .val (.double l1), .second, .val (.double g2), .second, .val (.double s2), .second, .val (.double l2), .second, rv pa, .val (.int 1)] [(.double l2), (.double s2), (.double g2), (.int 1), (.ref pa)]) (fun _ k => XS.dload X218.here hx rfl (hb hby at_111) rfl k) ?_
    obtain ⟨cq220, kq220, q220a, q220b, q220c⟩ := isOf hZ e218 F203
    obtain ⟨_, _, ⟨T220, L220, k220, n220⟩, -, X220, ⟨Lc220, hQ220, l220, y220, z220⟩, st220⟩ := X218.virtualBack hx (y := own_y2) (z := own_y2) hown (mvT hZ (own_g hw (i := 35) rfl)) (mvT hZ (own_g hw (i := 36) rfl)) (notFace_of_selects (args := #[]) (mvT hZ (own_g hw (i := 38) rfl))) (mvT hZ (own_g hw (i := 38) rfl)) (mvT hZ (own_g hw (i := 37) rfl)) (by decide) (backOf (W := 0) (own_rmsn1 l Z a0 hw [] (pa) (ga) (sa) (la) (k0) (k1) (k2) (g2) (s2) (l2) ((.double (0 : UInt64))) ((.double (0 : UInt64))) ((.double FP.dconst1)) ((.double (0 : UInt64))) ((.double (0 : UInt64))) ((.double FP.dconst1)) T202.heap n0 Z202 F207 F208 F209 F210 F211 F212 ge_ga ge_sa ge_la n182 n183 n184 pp167 pp168 pp172) hZ (own_g hw (i := 39) rfl) (own_g hw (i := 2) rfl) (by decide) (by decide)) q220a q220c (g := (mkF m 113 #[iv sl, iv a1, iv b1, iv c1, iv d1, iv e1, .val (.int 1), .val (.int 0), .val (.double g1), .second, .val (.double s1), .second, .val (.double l1), .second, .val (.double g2), .second, .val (.double s2), .second, .val (.double l2), .second, rv pa, .val (.int 1)] [(.double l2), (.double s2), (.double g2), (.int 1), (.ref pa)])) rfl (by rw [hml]; rfl) (Steps.refl _) (argsL := [(.int 1), (.double g2), (.double s2), (.double l2)]) (rest := []) (lenOf own_pd__IDDD_V rfl) rfl (by show 2 * 0 + _ ≤ _; exact Nat.le_of_eq rfl) (hb hby at_113) (fun _ _ => ⟨rfl, e218, (by decide : 7 + 0 ≤ _), (by decide : 18 + 0 ≤ _)⟩)
    dsimp only [Pt.U, Pt.locs, Pt.cells, Pt.slots] at X220 l220 y220 z220 st220 hQ220
    subst l220 y220 z220
    obtain ⟨rfl, N220q, K220q, F221, F222, F223⟩ := hQ220
    have N220 := Fr.app N218 N220q
    refine own_S (mkF m 116 #[iv sl, iv a1, iv b1, iv c1, iv d1, iv e1, .val (.int 1), .val (.int 0), .val (.double g1), .second, .val (.double s1), .second, .val (.double l1), .second, .val (.double g2), .second, .val (.double s2), .second, .val (.double l2), .second, rv pa, .val (.int 1)] []) (fun _ k => st220.trans k) ?_
    have F224 := F213.keep K220q (ninS (Ne.symm pp169) (ninS (Ne.symm pp173) (ninS (Ne.symm pp176) nin0)))
    have F225 := F214.keep K220q (ninS (Ne.symm pp170) (ninS (Ne.symm pp174) (ninS (Ne.symm pp177) nin0)))
    have F226 := F215.keep K220q (ninS (Ne.symm pp171) (ninS (Ne.symm pp175) (ninS (Ne.symm pp178) nin0)))
    have F227 := F203.keep K220q
    have F228 := F204.keep K220q (ninS n182 (ninS n183 (ninS n184 nin0)))
    have F229 := F205.keep K220q (ninS n182 (ninS n183 (ninS n184 nin0)))
    have F230 := F206.keep K220q (ninS n182 (ninS n183 (ninS n184 nin0)))
    have F231 := F207.keep K220q (ninS n182 (ninS n183 (ninS n184 nin0)))
    have F232 := F208.keep K220q (ninS n182 (ninS n183 (ninS n184 nin0)))
    have F233 := F209.keep K220q (ninS n182 (ninS n183 (ninS n184 nin0)))
    have Z220 : n0 ≤ T220.heap.size := Nat.le_trans Z202 K220q.1
    refine own_S (mkF m 118 #[iv sl, iv a1, iv b1, iv c1, iv d1, iv e1, .val (.int 1), .val (.int 0), .val (.double g1), .second, .val (.double s1), .second, .val (.double l1), .second, .val (.double g2), .second, .val (.double s2), .second, .val (.double l2), .second, rv pa, .val (.int 1)] [(.int 1)]) (fun _ k => XS.iload X220.here hx rfl (hb hby at_116) rfl k) ?_
    have hc234 : ¬ ((1 : Int32) = (0 : Int32)) := by decide
    refine own_S (mkF m 121 #[iv sl, iv a1, iv b1, iv c1, iv d1, iv e1, .val (.int 1), .val (.int 0), .val (.double g1), .second, .val (.double s1), .second, .val (.double l1), .second, .val (.double g2), .second, .val (.double s2), .second, .val (.double l2), .second, rv pa, .val (.int 1)] []) (fun _ k => XS.ifNo X220.here hx rfl (hb hby at_118) rfl ((if0 _ _).trans (feq hc234).1) k) ?_
    refine own_S (mkF m 123 #[iv sl, iv a1, iv b1, iv c1, iv d1, iv e1, .val (.int 1), .val (.int 0), .val (.double g1), .second, .val (.double s1), .second, .val (.double l1), .second, .val (.double g2), .second, .val (.double s2), .second, .val (.double l2), .second, rv pa, .val (.int 1)] [(.ref pa)]) (fun _ k => XS.aload X220.here hx rfl (hb hby at_121) rfl rfl k) ?_
    refine own_S (mkF m 125 #[iv sl, iv a1, iv b1, iv c1, iv d1, iv e1, .val (.int 1), .val (.int 0), .val (.double g1), .second, .val (.double s1), .second, .val (.double l1), .second, .val (.double g2), .second, .val (.double s2), .second, .val (.double l2), .second, rv pa, .val (.int 1)] [(.int 1), (.ref pa)]) (fun _ k => XS.iload X220.here hx rfl (hb hby at_123) rfl k) ?_
    refine own_S (mkF m 127 #[iv sl, iv a1, iv b1, iv c1, iv d1, iv e1, .val (.int 1), .val (.int 0), .val (.double g1), .second, .val (.double s1), .second, .val (.double l1), .second, .val (.double g2), .second, .val (.double s2), .second, .val (.double l2), .second, rv pa, .val (.int 1)] [(.double g1), (.int 1), (.ref pa)]) (fun _ k => XS.dload X220.here hx rfl (hb hby at_125) rfl k) ?_
    refine own_S (mkF m 129 #[iv sl, iv a1, iv b1, iv c1, iv d1, iv e1, .val (.int 1), .val (.int 0), .val (.double g1), .second, .val (.double s1), .second, .val (.double l1), .second, .val (.double g2), .second, .val (.double s2), .second, .val (.double l2), .second, rv pa, .val (.int 1)] [(.double s1), (.double g1), (.int 1), (.ref pa)]) (fun _ k => XS.dload X220.here hx rfl (hb hby at_127) rfl k) ?_
    refine own_S (mkF m 131 #[iv sl, iv a1, iv b1, iv c1, iv d1, iv e1, .val (.int 1), .val (.int 0), .val (.double g1), .second, .val (.double s1), .second, .val (.double l1), .second, .val (.double g2), .second, .val (.double s2), .second, .val (.double l2), .second, rv pa, .val (.int 1)] [(.double l1), (.double s1), (.double g1), (.int 1), (.ref pa)]) (fun _ k => XS.dload X220.here hx rfl (hb hby at_129) rfl k) ?_
    obtain ⟨_, _, ⟨T235, L235, k235, n235⟩, -, X235, ⟨Lc235, hQ235, l235, y235, z235⟩, st235⟩ := Jvm.LawKit.callS X220 hx (y := own_y3) hown (mvT hZ (own_g hw (i := 45) rfl)) (mvT hZ (own_g hw (i := 46) rfl)) (mvT hZ (own_g hw (i := 47) rfl)) (mvT hZ (own_g hw (i := 48) rfl)) (by decide) (backOf (W := 0) (own_rmis1 l Z a0 hw [] (pa) (ng) (ns) (nl) (k3) (k4) (k5) (g1) (s1) (l1) ((.double (0 : UInt64))) ((.double (0 : UInt64))) ((.double FP.dconst1)) T220.heap n0 Z220 F228 F229 F230 F224 F225 F226 n_g1 n_s1 n_l1) hZ (own_g hw (i := 48) rfl) (own_g hw (i := 47) rfl) (by decide) (by decide)) (g := (mkF m 131 #[iv sl, iv a1, iv b1, iv c1, iv d1, iv e1, .val (.int 1), .val (.int 0), .val (.double g1), .second, .val (.double s1), .second, .val (.double l1), .second, .val (.double g2), .second, .val (.double s2), .second, .val (.double l2), .second, rv pa, .val (.int 1)] [(.double l1), (.double s1), (.double g1), (.int 1), (.ref pa)])) rfl (by rw [hml]; rfl) (argsL := [(.ref pa), (.int 1), (.double g1), (.double s1), (.double l1)]) (rest := []) (lenOf own_pd__Lcom_example_accrue_accrue_exact_Paths_IDDD_Z rfl) rfl (by show 2 * 0 + _ ≤ _; exact Nat.le_of_eq rfl) (hb hby at_131) (fun _ _ => ⟨rfl, rfl, (by decide : 7 + 0 ≤ _), (by decide : 18 + 0 ≤ _)⟩)
    dsimp only [Pt.U, Pt.locs, Pt.cells, Pt.slots] at X235 l235 y235 z235 st235 hQ235
    subst l235 y235 z235
    obtain ⟨rfl, N235q, e235⟩ := hQ235
    have N235 := Fr.app N220 N235q
    refine own_S (mkF m 134 #[iv sl, iv a1, iv b1, iv c1, iv d1, iv e1, .val (.int 1), .val (.int 0), .val (.double g1), .second, .val (.double s1), .second, .val (.double l1), .second, .val (.double g2), .second, .val (.double s2), .second, .val (.double l2), .second, rv pa, .val (.int 1)] [(.int 1)]) (fun _ k => st235 _ k) ?_
    have hc236 : ¬ ((1 : Int32) = (0 : Int32)) := by decide
    refine own_S (mkF m 137 #[iv sl, iv a1, iv b1, iv c1, iv d1, iv e1, .val (.int 1), .val (.int 0), .val (.double g1), .second, .val (.double s1), .second, .val (.double l1), .second, .val (.double g2), .second, .val (.double s2), .second, .val (.double l2), .second, rv pa, .val (.int 1)] []) (fun _ k => XS.ifNo X235.here hx rfl (hb hby at_134) rfl ((if0 _ _).trans (feq hc236).1) k) ?_
    refine own_S (mkF m 139 #[iv sl, iv a1, iv b1, iv c1, iv d1, iv e1, .val (.int 1), .val (.int 0), .val (.double g1), .second, .val (.double s1), .second, .val (.double l1), .second, .val (.double g2), .second, .val (.double s2), .second, .val (.double l2), .second, rv pa, .val (.int 1)] [(.ref pa)]) (fun _ k => XS.aload X235.here hx rfl (hb hby at_137) rfl rfl k) ?_
    refine own_S (mkF m 141 #[iv sl, iv a1, iv b1, iv c1, iv d1, iv e1, .val (.int 1), .val (.int 0), .val (.double g1), .second, .val (.double s1), .second, .val (.double l1), .second, .val (.double g2), .second, .val (.double s2), .second, .val (.double l2), .second, rv pa, .val (.int 1)] [(.int 0), (.ref pa)]) (fun _ k => XS.iload X235.here hx rfl (hb hby at_139) rfl k) ?_
    refine own_S (mkF m 142 #[iv sl, iv a1, iv b1, iv c1, iv d1, iv e1, .val (.int 1), .val (.int 0), .val (.double g1), .second, .val (.double s1), .second, .val (.double l1), .second, .val (.double g2), .second, .val (.double s2), .second, .val (.double l2), .second, rv pa, .val (.int 1)] [(.double (0 : UInt64)), (.int 0), (.ref pa)]) (fun _ k => XS.dconst0 X235.here hx rfl (hb hby at_141) rfl k) ?_
    refine own_S (mkF m 143 #[iv sl, iv a1, iv b1, iv c1, iv d1, iv e1, .val (.int 1), .val (.int 0), .val (.double g1), .second, .val (.double s1), .second, .val (.double l1), .second, .val (.double g2), .second, .val (.double s2), .second, .val (.double l2), .second, rv pa, .val (.int 1)] [(.double (0 : UInt64)), (.double (0 : UInt64)), (.int 0), (.ref pa)]) (fun _ k => XS.dconst0 X235.here hx rfl (hb hby at_142) rfl k) ?_
    refine own_S (mkF m 144 #[iv sl, iv a1, iv b1, iv c1, iv d1, iv e1, .val (.int 1), .val (.int 0), .val (.double g1), .second, .val (.double s1), .second, .val (.double l1), .second, .val (.double g2), .second, .val (.double s2), .second, .val (.double l2), .second, rv pa, .val (.int 1)] [(.double FP.dconst1), (.double (0 : UInt64)), (.double (0 : UInt64)), (.int 0), (.ref pa)]) (fun _ k => XS.dconst1 X235.here hx rfl (hb hby at_143) rfl k) ?_
    obtain ⟨_, _, ⟨T237, L237, k237, n237⟩, -, X237, ⟨Lc237, hQ237, l237, y237, z237⟩, st237⟩ := Jvm.LawKit.callS X235 hx (y := own_y3) hown (mvT hZ (own_g hw (i := 45) rfl)) (mvT hZ (own_g hw (i := 46) rfl)) (mvT hZ (own_g hw (i := 47) rfl)) (mvT hZ (own_g hw (i := 48) rfl)) (by decide) (backOf (W := 0) (own_rmis0 l Z a0 hw [] (pa) (ng) (ns) (nl) (k3) (k4) (k5) ((0 : UInt64)) ((0 : UInt64)) (FP.dconst1) ((.double g1)) ((.double s1)) ((.double l1)) T220.heap n0 Z220 F228 F229 F230 F224 F225 F226 n_z n_z n_o) hZ (own_g hw (i := 48) rfl) (own_g hw (i := 47) rfl) (by decide) (by decide)) (g := (mkF m 144 #[iv sl, iv a1, iv b1, iv c1, iv d1, iv e1, .val (.int 1), .val (.int 0), .val (.double g1), .second, .val (.double s1), .second, .val (.double l1), .second, .val (.double g2), .second, .val (.double s2), .second, .val (.double l2), .second, rv pa, .val (.int 1)] [(.double FP.dconst1), (.double (0 : UInt64)), (.double (0 : UInt64)), (.int 0), (.ref pa)])) rfl (by rw [hml]; rfl) (argsL := [(.ref pa), (.int 0), (.double (0 : UInt64)), (.double (0 : UInt64)), (.double FP.dconst1)]) (rest := []) (lenOf own_pd__Lcom_example_accrue_accrue_exact_Paths_IDDD_Z rfl) rfl (by show 2 * 0 + _ ≤ _; exact Nat.le_of_eq rfl) (hb hby at_144) (fun _ _ => ⟨rfl, e235, (by decide : 7 + 0 ≤ _), (by decide : 18 + 0 ≤ _)⟩)
    dsimp only [Pt.U, Pt.locs, Pt.cells, Pt.slots] at X237 l237 y237 z237 st237 hQ237
    subst l237 y237 z237
    obtain ⟨rfl, N237q, e237⟩ := hQ237
    have N237 := Fr.app N235 N237q
    refine own_S (mkF m 147 #[iv sl, iv a1, iv b1, iv c1, iv d1, iv e1, .val (.int 1), .val (.int 0), .val (.double g1), .second, .val (.double s1), .second, .val (.double l1), .second, .val (.double g2), .second, .val (.double s2), .second, .val (.double l2), .second, rv pa, .val (.int 1)] [(.int 1)]) (fun _ k => st237 _ k) ?_
    have hc238 : ¬ ((1 : Int32) = (0 : Int32)) := by decide
    refine own_S (mkF m 150 #[iv sl, iv a1, iv b1, iv c1, iv d1, iv e1, .val (.int 1), .val (.int 0), .val (.double g1), .second, .val (.double s1), .second, .val (.double l1), .second, .val (.double g2), .second, .val (.double s2), .second, .val (.double l2), .second, rv pa, .val (.int 1)] []) (fun _ k => XS.ifNo X237.here hx rfl (hb hby at_147) rfl ((if0 _ _).trans (feq hc238).1) k) ?_
    refine own_S (mkF m 151 #[iv sl, iv a1, iv b1, iv c1, iv d1, iv e1, .val (.int 1), .val (.int 0), .val (.double g1), .second, .val (.double s1), .second, .val (.double l1), .second, .val (.double g2), .second, .val (.double s2), .second, .val (.double l2), .second, rv pa, .val (.int 1)] [(.int 1)]) (fun _ k => XS.iconst X237.here hx rfl (hb hby at_150) k) ?_
    refine own_S (mkF m 155 #[iv sl, iv a1, iv b1, iv c1, iv d1, iv e1, .val (.int 1), .val (.int 0), .val (.double g1), .second, .val (.double s1), .second, .val (.double l1), .second, .val (.double g2), .second, .val (.double s2), .second, .val (.double l2), .second, rv pa, .val (.int 1)] [(.int 1)]) (fun _ k => XS.goto X237.here hx rfl (pc0 := 151) (pc' := 155) rfl (hb hby at_151) (by decide) (by decide) k) ?_
    refine own_S (mkF m 157 #[iv sl, iv a1, iv b1, iv c1, iv d1, iv e1, .val (.int 1), .val (.int 0), .val (.double g1), .second, .val (.double s1), .second, .val (.double l1), .second, .val (.double g2), .second, .val (.double s2), .second, .val (.double l2), .second, rv pa, .val (.int 1)] []) (fun _ k => XS.istore X237.here hx rfl (hb hby at_155) rfl (l' := #[iv sl, iv a1, iv b1, iv c1, iv d1, iv e1, .val (.int 1), .val (.int 0), .val (.double g1), .second, .val (.double s1), .second, .val (.double l1), .second, .val (.double g2), .second, .val (.double s2), .second, .val (.double l2), .second, rv pa, .val (.int 1)]) rfl k) ?_
    refine own_S (mkF m 159 #[iv sl, iv a1, iv b1, iv c1, iv d1, iv e1, .val (.int 1), .val (.int 0), .val (.double g1), .second, .val (.double s1), .second, .val (.double l1), .second, .val (.double g2), .second, .val (.double s2), .second, .val (.double l2), .second, rv pa, .val (.int 1)] [(.ref pa)]) (fun _ k => XS.aload X237.here hx rfl (hb hby at_157) rfl rfl k) ?_
    obtain ⟨cq239, kq239, q239a, q239b, q239c⟩ := isOf hZ e237 F227
    obtain ⟨_, _, ⟨T239, L239, k239, n239⟩, -, X239, ⟨Lc239, hQ239, l239, y239, z239⟩, st239⟩ := X237.virtualBack hx (y := own_y4) (z := own_y4) hown (mvT hZ (own_g hw (i := 40) rfl)) (mvT hZ (own_g hw (i := 41) rfl)) (notFace_of_selects (args := #[]) (mvT hZ (own_g hw (i := 43) rfl))) (mvT hZ (own_g hw (i := 43) rfl)) (mvT hZ (own_g hw (i := 42) rfl)) (by decide) (backOf (W := 0) (own_rmadv l Z a0 hw [] (pa) (ng) (ns) (nl) (ga) (sa) (la) T220.heap n0 Z220 F227 F228 F229 F230 F231 F232 F233 ge_pa) hZ (own_g hw (i := 44) rfl) (own_g hw (i := 2) rfl) (by decide) (by decide)) q239a q239c (g := (mkF m 159 #[iv sl, iv a1, iv b1, iv c1, iv d1, iv e1, .val (.int 1), .val (.int 0), .val (.double g1), .second, .val (.double s1), .second, .val (.double l1), .second, .val (.double g2), .second, .val (.double s2), .second, .val (.double l2), .second, rv pa, .val (.int 1)] [(.ref pa)])) rfl (by rw [hml]; rfl) (Steps.refl _) (argsL := []) (rest := []) (lenOf own_pd___V rfl) rfl (by show 2 * 0 + _ ≤ _; exact Nat.le_of_eq rfl) (hb hby at_159) (fun _ _ => ⟨rfl, e237, (by decide : 7 + 0 ≤ _), (by decide : 18 + 0 ≤ _)⟩)
    dsimp only [Pt.U, Pt.locs, Pt.cells, Pt.slots] at X239 l239 y239 z239 st239 hQ239
    subst l239 y239 z239
    obtain ⟨rfl, N239q, K239q, F240, F241, F242, F243, F244, F245, F246⟩ := hQ239
    have N239 := Fr.app N237 N239q
    refine own_S (mkF m 162 #[iv sl, iv a1, iv b1, iv c1, iv d1, iv e1, .val (.int 1), .val (.int 0), .val (.double g1), .second, .val (.double s1), .second, .val (.double l1), .second, .val (.double g2), .second, .val (.double s2), .second, .val (.double l2), .second, rv pa, .val (.int 1)] []) (fun _ k => st239.trans k) ?_
    have F247 := F224.keep K239q (ninS (Ne.symm n185) nin0)
    have F248 := F225.keep K239q (ninS (Ne.symm n186) nin0)
    have F249 := F226.keep K239q (ninS (Ne.symm n187) nin0)
    have F250 := F221.keep K239q (ninS (Ne.symm n182) nin0)
    have F251 := F222.keep K239q (ninS (Ne.symm n183) nin0)
    have F252 := F223.keep K239q (ninS (Ne.symm n184) nin0)
    have Z239 : n0 ≤ T239.heap.size := Nat.le_trans Z220 K239q.1
    refine own_S (mkF m 164 #[iv sl, iv a1, iv b1, iv c1, iv d1, iv e1, .val (.int 1), .val (.int 0), .val (.double g1), .second, .val (.double s1), .second, .val (.double l1), .second, .val (.double g2), .second, .val (.double s2), .second, .val (.double l2), .second, rv pa, .val (.int 1)] [(.int 1)]) (fun _ k => XS.iload X239.here hx rfl (hb hby at_162) rfl k) ?_
    have hc253 : ¬ ((1 : Int32) = (0 : Int32)) := by decide
    refine own_S (mkF m 167 #[iv sl, iv a1, iv b1, iv c1, iv d1, iv e1, .val (.int 1), .val (.int 0), .val (.double g1), .second, .val (.double s1), .second, .val (.double l1), .second, .val (.double g2), .second, .val (.double s2), .second, .val (.double l2), .second, rv pa, .val (.int 1)] []) (fun _ k => XS.ifNo X239.here hx rfl (hb hby at_164) rfl ((if0 _ _).trans (feq hc253).1) k) ?_
    refine own_S (mkF m 169 #[iv sl, iv a1, iv b1, iv c1, iv d1, iv e1, .val (.int 1), .val (.int 0), .val (.double g1), .second, .val (.double s1), .second, .val (.double l1), .second, .val (.double g2), .second, .val (.double s2), .second, .val (.double l2), .second, rv pa, .val (.int 1)] [(.ref pa)]) (fun _ k => XS.aload X239.here hx rfl (hb hby at_167) rfl rfl k) ?_
    refine own_S (mkF m 171 #[iv sl, iv a1, iv b1, iv c1, iv d1, iv e1, .val (.int 1), .val (.int 0), .val (.double g1), .second, .val (.double s1), .second, .val (.double l1), .second, .val (.double g2), .second, .val (.double s2), .second, .val (.double l2), .second, rv pa, .val (.int 1)] [(.int 1), (.ref pa)]) (fun _ k => XS.iload X239.here hx rfl (hb hby at_169) rfl k) ?_
    refine own_S (mkF m 173 #[iv sl, iv a1, iv b1, iv c1, iv d1, iv e1, .val (.int 1), .val (.int 0), .val (.double g1), .second, .val (.double s1), .second, .val (.double l1), .second, .val (.double g2), .second, .val (.double s2), .second, .val (.double l2), .second, rv pa, .val (.int 1)] [(.double g2), (.int 1), (.ref pa)]) (fun _ k => XS.dload X239.here hx rfl (hb hby at_171) rfl k) ?_
    refine own_S (mkF m 175 #[iv sl, iv a1, iv b1, iv c1, iv d1, iv e1, .val (.int 1), .val (.int 0), .val (.double g1), .second, .val (.double s1), .second, .val (.double l1), .second, .val (.double g2), .second, .val (.double s2), .second, .val (.double l2), .second, rv pa, .val (.int 1)] [(.double s2), (.double g2), (.int 1), (.ref pa)]) (fun _ k => XS.dload X239.here hx rfl (hb hby at_173) rfl k) ?_
    refine own_S (mkF m 177 #[iv sl, iv a1, iv b1, iv c1, iv d1, iv e1, .val (.int 1), .val (.int 0), .val (.double g1), .second, .val (.double s1), .second, .val (.double l1), .second, .val (.double g2), .second, .val (.double s2), .second, .val (.double l2), .second, rv pa, .val (.int 1)] [(.double l2), (.double s2), (.double g2), (.int 1), (.ref pa)]) (fun _ k => XS.dload X239.here hx rfl (hb hby at_175) rfl k) ?_
    obtain ⟨_, _, ⟨T254, L254, k254, n254⟩, -, X254, ⟨Lc254, hQ254, l254, y254, z254⟩, st254⟩ := Jvm.LawKit.callS X239 hx (y := own_y3) hown (mvT hZ (own_g hw (i := 45) rfl)) (mvT hZ (own_g hw (i := 46) rfl)) (mvT hZ (own_g hw (i := 47) rfl)) (mvT hZ (own_g hw (i := 48) rfl)) (by decide) (backOf (W := 0) (own_rmis1 l Z a0 hw [] (pa) (ga) (sa) (la) (k0) (k1) (k2) (g2) (s2) (l2) ((.double (0 : UInt64))) ((.double (0 : UInt64))) ((.double FP.dconst1)) T239.heap n0 Z239 F241 F242 F243 F250 F251 F252 n_g2 n_s2 n_l2) hZ (own_g hw (i := 48) rfl) (own_g hw (i := 47) rfl) (by decide) (by decide)) (g := (mkF m 177 #[iv sl, iv a1, iv b1, iv c1, iv d1, iv e1, .val (.int 1), .val (.int 0), .val (.double g1), .second, .val (.double s1), .second, .val (.double l1), .second, .val (.double g2), .second, .val (.double s2), .second, .val (.double l2), .second, rv pa, .val (.int 1)] [(.double l2), (.double s2), (.double g2), (.int 1), (.ref pa)])) rfl (by rw [hml]; rfl) (argsL := [(.ref pa), (.int 1), (.double g2), (.double s2), (.double l2)]) (rest := []) (lenOf own_pd__Lcom_example_accrue_accrue_exact_Paths_IDDD_Z rfl) rfl (by show 2 * 0 + _ ≤ _; exact Nat.le_of_eq rfl) (hb hby at_177) (fun _ _ => ⟨rfl, rfl, (by decide : 7 + 0 ≤ _), (by decide : 18 + 0 ≤ _)⟩)
    dsimp only [Pt.U, Pt.locs, Pt.cells, Pt.slots] at X254 l254 y254 z254 st254 hQ254
    subst l254 y254 z254
    obtain ⟨rfl, N254q, e254⟩ := hQ254
    have N254 := Fr.app N239 N254q
    refine own_S (mkF m 180 #[iv sl, iv a1, iv b1, iv c1, iv d1, iv e1, .val (.int 1), .val (.int 0), .val (.double g1), .second, .val (.double s1), .second, .val (.double l1), .second, .val (.double g2), .second, .val (.double s2), .second, .val (.double l2), .second, rv pa, .val (.int 1)] [(.int 1)]) (fun _ k => st254 _ k) ?_
    have hc255 : ¬ ((1 : Int32) = (0 : Int32)) := by decide
    refine own_S (mkF m 183 #[iv sl, iv a1, iv b1, iv c1, iv d1, iv e1, .val (.int 1), .val (.int 0), .val (.double g1), .second, .val (.double s1), .second, .val (.double l1), .second, .val (.double g2), .second, .val (.double s2), .second, .val (.double l2), .second, rv pa, .val (.int 1)] []) (fun _ k => XS.ifNo X254.here hx rfl (hb hby at_180) rfl ((if0 _ _).trans (feq hc255).1) k) ?_
    refine own_S (mkF m 185 #[iv sl, iv a1, iv b1, iv c1, iv d1, iv e1, .val (.int 1), .val (.int 0), .val (.double g1), .second, .val (.double s1), .second, .val (.double l1), .second, .val (.double g2), .second, .val (.double s2), .second, .val (.double l2), .second, rv pa, .val (.int 1)] [(.ref pa)]) (fun _ k => XS.aload X254.here hx rfl (hb hby at_183) rfl rfl k) ?_
    refine own_S (mkF m 187 #[iv sl, iv a1, iv b1, iv c1, iv d1, iv e1, .val (.int 1), .val (.int 0), .val (.double g1), .second, .val (.double s1), .second, .val (.double l1), .second, .val (.double g2), .second, .val (.double s2), .second, .val (.double l2), .second, rv pa, .val (.int 1)] [(.int 0), (.ref pa)]) (fun _ k => XS.iload X254.here hx rfl (hb hby at_185) rfl k) ?_
    refine own_S (mkF m 188 #[iv sl, iv a1, iv b1, iv c1, iv d1, iv e1, .val (.int 1), .val (.int 0), .val (.double g1), .second, .val (.double s1), .second, .val (.double l1), .second, .val (.double g2), .second, .val (.double s2), .second, .val (.double l2), .second, rv pa, .val (.int 1)] [(.double (0 : UInt64)), (.int 0), (.ref pa)]) (fun _ k => XS.dconst0 X254.here hx rfl (hb hby at_187) rfl k) ?_
    refine own_S (mkF m 189 #[iv sl, iv a1, iv b1, iv c1, iv d1, iv e1, .val (.int 1), .val (.int 0), .val (.double g1), .second, .val (.double s1), .second, .val (.double l1), .second, .val (.double g2), .second, .val (.double s2), .second, .val (.double l2), .second, rv pa, .val (.int 1)] [(.double (0 : UInt64)), (.double (0 : UInt64)), (.int 0), (.ref pa)]) (fun _ k => XS.dconst0 X254.here hx rfl (hb hby at_188) rfl k) ?_
    refine own_S (mkF m 190 #[iv sl, iv a1, iv b1, iv c1, iv d1, iv e1, .val (.int 1), .val (.int 0), .val (.double g1), .second, .val (.double s1), .second, .val (.double l1), .second, .val (.double g2), .second, .val (.double s2), .second, .val (.double l2), .second, rv pa, .val (.int 1)] [(.double FP.dconst1), (.double (0 : UInt64)), (.double (0 : UInt64)), (.int 0), (.ref pa)]) (fun _ k => XS.dconst1 X254.here hx rfl (hb hby at_189) rfl k) ?_
    obtain ⟨_, _, ⟨T256, L256, k256, n256⟩, -, X256, ⟨Lc256, hQ256, l256, y256, z256⟩, st256⟩ := Jvm.LawKit.callS X254 hx (y := own_y3) hown (mvT hZ (own_g hw (i := 45) rfl)) (mvT hZ (own_g hw (i := 46) rfl)) (mvT hZ (own_g hw (i := 47) rfl)) (mvT hZ (own_g hw (i := 48) rfl)) (by decide) (backOf (W := 0) (own_rmis0 l Z a0 hw [] (pa) (ga) (sa) (la) (k0) (k1) (k2) ((0 : UInt64)) ((0 : UInt64)) (FP.dconst1) ((.double g2)) ((.double s2)) ((.double l2)) T239.heap n0 Z239 F241 F242 F243 F250 F251 F252 n_z n_z n_o) hZ (own_g hw (i := 48) rfl) (own_g hw (i := 47) rfl) (by decide) (by decide)) (g := (mkF m 190 #[iv sl, iv a1, iv b1, iv c1, iv d1, iv e1, .val (.int 1), .val (.int 0), .val (.double g1), .second, .val (.double s1), .second, .val (.double l1), .second, .val (.double g2), .second, .val (.double s2), .second, .val (.double l2), .second, rv pa, .val (.int 1)] [(.double FP.dconst1), (.double (0 : UInt64)), (.double (0 : UInt64)), (.int 0), (.ref pa)])) rfl (by rw [hml]; rfl) (argsL := [(.ref pa), (.int 0), (.double (0 : UInt64)), (.double (0 : UInt64)), (.double FP.dconst1)]) (rest := []) (lenOf own_pd__Lcom_example_accrue_accrue_exact_Paths_IDDD_Z rfl) rfl (by show 2 * 0 + _ ≤ _; exact Nat.le_of_eq rfl) (hb hby at_190) (fun _ _ => ⟨rfl, e254, (by decide : 7 + 0 ≤ _), (by decide : 18 + 0 ≤ _)⟩)
    dsimp only [Pt.U, Pt.locs, Pt.cells, Pt.slots] at X256 l256 y256 z256 st256 hQ256
    subst l256 y256 z256
    obtain ⟨rfl, N256q, e256⟩ := hQ256
    have N256 := Fr.app N254 N256q
    refine own_S (mkF m 193 #[iv sl, iv a1, iv b1, iv c1, iv d1, iv e1, .val (.int 1), .val (.int 0), .val (.double g1), .second, .val (.double s1), .second, .val (.double l1), .second, .val (.double g2), .second, .val (.double s2), .second, .val (.double l2), .second, rv pa, .val (.int 1)] [(.int 1)]) (fun _ k => st256 _ k) ?_
    have hc257 : ¬ ((1 : Int32) = (0 : Int32)) := by decide
    refine own_S (mkF m 196 #[iv sl, iv a1, iv b1, iv c1, iv d1, iv e1, .val (.int 1), .val (.int 0), .val (.double g1), .second, .val (.double s1), .second, .val (.double l1), .second, .val (.double g2), .second, .val (.double s2), .second, .val (.double l2), .second, rv pa, .val (.int 1)] []) (fun _ k => XS.ifNo X256.here hx rfl (hb hby at_193) rfl ((if0 _ _).trans (feq hc257).1) k) ?_
    refine own_S (mkF m 197 #[iv sl, iv a1, iv b1, iv c1, iv d1, iv e1, .val (.int 1), .val (.int 0), .val (.double g1), .second, .val (.double s1), .second, .val (.double l1), .second, .val (.double g2), .second, .val (.double s2), .second, .val (.double l2), .second, rv pa, .val (.int 1)] [(.int 1)]) (fun _ k => XS.iconst X256.here hx rfl (hb hby at_196) k) ?_
    refine own_S (mkF m 201 #[iv sl, iv a1, iv b1, iv c1, iv d1, iv e1, .val (.int 1), .val (.int 0), .val (.double g1), .second, .val (.double s1), .second, .val (.double l1), .second, .val (.double g2), .second, .val (.double s2), .second, .val (.double l2), .second, rv pa, .val (.int 1)] [(.int 1)]) (fun _ k => XS.goto X256.here hx rfl (pc0 := 197) (pc' := 201) rfl (hb hby at_197) (by decide) (by decide) k) ?_
    refine own_S (mkF m 203 #[iv sl, iv a1, iv b1, iv c1, iv d1, iv e1, .val (.int 1), .val (.int 0), .val (.double g1), .second, .val (.double s1), .second, .val (.double l1), .second, .val (.double g2), .second, .val (.double s2), .second, .val (.double l2), .second, rv pa, .val (.int 1)] []) (fun _ k => XS.istore X256.here hx rfl (hb hby at_201) rfl (l' := #[iv sl, iv a1, iv b1, iv c1, iv d1, iv e1, .val (.int 1), .val (.int 0), .val (.double g1), .second, .val (.double s1), .second, .val (.double l1), .second, .val (.double g2), .second, .val (.double s2), .second, .val (.double l2), .second, rv pa, .val (.int 1)]) rfl k) ?_
    refine own_S (mkF m 205 #[iv sl, iv a1, iv b1, iv c1, iv d1, iv e1, .val (.int 1), .val (.int 0), .val (.double g1), .second, .val (.double s1), .second, .val (.double l1), .second, .val (.double g2), .second, .val (.double s2), .second, .val (.double l2), .second, rv pa, .val (.int 1)] [(.ref pa)]) (fun _ k => XS.aload X256.here hx rfl (hb hby at_203) rfl rfl k) ?_
    obtain ⟨cq258, kq258, q258a, q258b, q258c⟩ := isOf hZ e256 F240
    obtain ⟨_, _, ⟨T258, L258, k258, n258⟩, -, X258, ⟨Lc258, hQ258, l258, y258, z258⟩, st258⟩ := X256.virtualBack hx (y := own_y4) (z := own_y4) hown (mvT hZ (own_g hw (i := 40) rfl)) (mvT hZ (own_g hw (i := 41) rfl)) (notFace_of_selects (args := #[]) (mvT hZ (own_g hw (i := 43) rfl))) (mvT hZ (own_g hw (i := 43) rfl)) (mvT hZ (own_g hw (i := 42) rfl)) (by decide) (backOf (W := 0) (own_rmadv l Z a0 hw [] (pa) (ga) (sa) (la) (ng) (ns) (nl) T239.heap n0 Z239 F240 F241 F242 F243 F244 F245 F246 ge_pa) hZ (own_g hw (i := 44) rfl) (own_g hw (i := 2) rfl) (by decide) (by decide)) q258a q258c (g := (mkF m 205 #[iv sl, iv a1, iv b1, iv c1, iv d1, iv e1, .val (.int 1), .val (.int 0), .val (.double g1), .second, .val (.double s1), .second, .val (.double l1), .second, .val (.double g2), .second, .val (.double s2), .second, .val (.double l2), .second, rv pa, .val (.int 1)] [(.ref pa)])) rfl (by rw [hml]; rfl) (Steps.refl _) (argsL := []) (rest := []) (lenOf own_pd___V rfl) rfl (by show 2 * 0 + _ ≤ _; exact Nat.le_of_eq rfl) (hb hby at_205) (fun _ _ => ⟨rfl, e256, (by decide : 7 + 0 ≤ _), (by decide : 18 + 0 ≤ _)⟩)
    dsimp only [Pt.U, Pt.locs, Pt.cells, Pt.slots] at X258 l258 y258 z258 st258 hQ258
    subst l258 y258 z258
    obtain ⟨rfl, N258q, K258q, F259, F260, F261, F262, F263, F264, F265⟩ := hQ258
    have N258 := Fr.app N256 N258q
    refine own_S (mkF m 208 #[iv sl, iv a1, iv b1, iv c1, iv d1, iv e1, .val (.int 1), .val (.int 0), .val (.double g1), .second, .val (.double s1), .second, .val (.double l1), .second, .val (.double g2), .second, .val (.double s2), .second, .val (.double l2), .second, rv pa, .val (.int 1)] []) (fun _ k => st258.trans k) ?_
    have F266 := F247.keep K258q (ninS (Ne.symm n185) nin0)
    have F267 := F248.keep K258q (ninS (Ne.symm n186) nin0)
    have F268 := F249.keep K258q (ninS (Ne.symm n187) nin0)
    have F269 := F250.keep K258q (ninS (Ne.symm n182) nin0)
    have F270 := F251.keep K258q (ninS (Ne.symm n183) nin0)
    have F271 := F252.keep K258q (ninS (Ne.symm n184) nin0)
    have Z258 : n0 ≤ T258.heap.size := Nat.le_trans Z239 K258q.1
    refine own_S (mkF m 210 #[iv sl, iv a1, iv b1, iv c1, iv d1, iv e1, .val (.int 1), .val (.int 0), .val (.double g1), .second, .val (.double s1), .second, .val (.double l1), .second, .val (.double g2), .second, .val (.double s2), .second, .val (.double l2), .second, rv pa, .val (.int 1)] [(.int 1)]) (fun _ k => XS.iload X258.here hx rfl (hb hby at_208) rfl k) ?_
    have hc272 : ¬ ((1 : Int32) = (0 : Int32)) := by decide
    refine own_S (mkF m 213 #[iv sl, iv a1, iv b1, iv c1, iv d1, iv e1, .val (.int 1), .val (.int 0), .val (.double g1), .second, .val (.double s1), .second, .val (.double l1), .second, .val (.double g2), .second, .val (.double s2), .second, .val (.double l2), .second, rv pa, .val (.int 1)] []) (fun _ k => XS.ifNo X258.here hx rfl (hb hby at_210) rfl ((if0 _ _).trans (feq hc272).1) k) ?_
    refine own_S (mkF m 215 #[iv sl, iv a1, iv b1, iv c1, iv d1, iv e1, .val (.int 1), .val (.int 0), .val (.double g1), .second, .val (.double s1), .second, .val (.double l1), .second, .val (.double g2), .second, .val (.double s2), .second, .val (.double l2), .second, rv pa, .val (.int 1)] [(.ref pa)]) (fun _ k => XS.aload X258.here hx rfl (hb hby at_213) rfl rfl k) ?_
    refine own_S (mkF m 217 #[iv sl, iv a1, iv b1, iv c1, iv d1, iv e1, .val (.int 1), .val (.int 0), .val (.double g1), .second, .val (.double s1), .second, .val (.double l1), .second, .val (.double g2), .second, .val (.double s2), .second, .val (.double l2), .second, rv pa, .val (.int 1)] [(.int 1), (.ref pa)]) (fun _ k => XS.iload X258.here hx rfl (hb hby at_215) rfl k) ?_
    refine own_S (mkF m 219 #[iv sl, iv a1, iv b1, iv c1, iv d1, iv e1, .val (.int 1), .val (.int 0), .val (.double g1), .second, .val (.double s1), .second, .val (.double l1), .second, .val (.double g2), .second, .val (.double s2), .second, .val (.double l2), .second, rv pa, .val (.int 1)] [(.double g1), (.int 1), (.ref pa)]) (fun _ k => XS.dload X258.here hx rfl (hb hby at_217) rfl k) ?_
    refine own_S (mkF m 221 #[iv sl, iv a1, iv b1, iv c1, iv d1, iv e1, .val (.int 1), .val (.int 0), .val (.double g1), .second, .val (.double s1), .second, .val (.double l1), .second, .val (.double g2), .second, .val (.double s2), .second, .val (.double l2), .second, rv pa, .val (.int 1)] [(.double s1), (.double g1), (.int 1), (.ref pa)]) (fun _ k => XS.dload X258.here hx rfl (hb hby at_219) rfl k) ?_
    refine own_S (mkF m 223 #[iv sl, iv a1, iv b1, iv c1, iv d1, iv e1, .val (.int 1), .val (.int 0), .val (.double g1), .second, .val (.double s1), .second, .val (.double l1), .second, .val (.double g2), .second, .val (.double s2), .second, .val (.double l2), .second, rv pa, .val (.int 1)] [(.double l1), (.double s1), (.double g1), (.int 1), (.ref pa)]) (fun _ k => XS.dload X258.here hx rfl (hb hby at_221) rfl k) ?_
    obtain ⟨_, _, ⟨T273, L273, k273, n273⟩, -, X273, ⟨Lc273, hQ273, l273, y273, z273⟩, st273⟩ := Jvm.LawKit.callS X258 hx (y := own_y3) hown (mvT hZ (own_g hw (i := 45) rfl)) (mvT hZ (own_g hw (i := 46) rfl)) (mvT hZ (own_g hw (i := 47) rfl)) (mvT hZ (own_g hw (i := 48) rfl)) (by decide) (backOf (W := 0) (own_rmis1 l Z a0 hw [] (pa) (ng) (ns) (nl) (k3) (k4) (k5) (g1) (s1) (l1) ((.double (0 : UInt64))) ((.double (0 : UInt64))) ((.double FP.dconst1)) T258.heap n0 Z258 F260 F261 F262 F266 F267 F268 n_g1 n_s1 n_l1) hZ (own_g hw (i := 48) rfl) (own_g hw (i := 47) rfl) (by decide) (by decide)) (g := (mkF m 223 #[iv sl, iv a1, iv b1, iv c1, iv d1, iv e1, .val (.int 1), .val (.int 0), .val (.double g1), .second, .val (.double s1), .second, .val (.double l1), .second, .val (.double g2), .second, .val (.double s2), .second, .val (.double l2), .second, rv pa, .val (.int 1)] [(.double l1), (.double s1), (.double g1), (.int 1), (.ref pa)])) rfl (by rw [hml]; rfl) (argsL := [(.ref pa), (.int 1), (.double g1), (.double s1), (.double l1)]) (rest := []) (lenOf own_pd__Lcom_example_accrue_accrue_exact_Paths_IDDD_Z rfl) rfl (by show 2 * 0 + _ ≤ _; exact Nat.le_of_eq rfl) (hb hby at_223) (fun _ _ => ⟨rfl, rfl, (by decide : 7 + 0 ≤ _), (by decide : 18 + 0 ≤ _)⟩)
    dsimp only [Pt.U, Pt.locs, Pt.cells, Pt.slots] at X273 l273 y273 z273 st273 hQ273
    subst l273 y273 z273
    obtain ⟨rfl, N273q, e273⟩ := hQ273
    have N273 := Fr.app N258 N273q
    refine own_S (mkF m 226 #[iv sl, iv a1, iv b1, iv c1, iv d1, iv e1, .val (.int 1), .val (.int 0), .val (.double g1), .second, .val (.double s1), .second, .val (.double l1), .second, .val (.double g2), .second, .val (.double s2), .second, .val (.double l2), .second, rv pa, .val (.int 1)] [(.int 1)]) (fun _ k => st273 _ k) ?_
    have hc274 : ¬ ((1 : Int32) = (0 : Int32)) := by decide
    refine own_S (mkF m 229 #[iv sl, iv a1, iv b1, iv c1, iv d1, iv e1, .val (.int 1), .val (.int 0), .val (.double g1), .second, .val (.double s1), .second, .val (.double l1), .second, .val (.double g2), .second, .val (.double s2), .second, .val (.double l2), .second, rv pa, .val (.int 1)] []) (fun _ k => XS.ifNo X273.here hx rfl (hb hby at_226) rfl ((if0 _ _).trans (feq hc274).1) k) ?_
    refine own_S (mkF m 231 #[iv sl, iv a1, iv b1, iv c1, iv d1, iv e1, .val (.int 1), .val (.int 0), .val (.double g1), .second, .val (.double s1), .second, .val (.double l1), .second, .val (.double g2), .second, .val (.double s2), .second, .val (.double l2), .second, rv pa, .val (.int 1)] [(.ref pa)]) (fun _ k => XS.aload X273.here hx rfl (hb hby at_229) rfl rfl k) ?_
    refine own_S (mkF m 233 #[iv sl, iv a1, iv b1, iv c1, iv d1, iv e1, .val (.int 1), .val (.int 0), .val (.double g1), .second, .val (.double s1), .second, .val (.double l1), .second, .val (.double g2), .second, .val (.double s2), .second, .val (.double l2), .second, rv pa, .val (.int 1)] [(.int 0), (.ref pa)]) (fun _ k => XS.iload X273.here hx rfl (hb hby at_231) rfl k) ?_
    refine own_S (mkF m 234 #[iv sl, iv a1, iv b1, iv c1, iv d1, iv e1, .val (.int 1), .val (.int 0), .val (.double g1), .second, .val (.double s1), .second, .val (.double l1), .second, .val (.double g2), .second, .val (.double s2), .second, .val (.double l2), .second, rv pa, .val (.int 1)] [(.double (0 : UInt64)), (.int 0), (.ref pa)]) (fun _ k => XS.dconst0 X273.here hx rfl (hb hby at_233) rfl k) ?_
    refine own_S (mkF m 235 #[iv sl, iv a1, iv b1, iv c1, iv d1, iv e1, .val (.int 1), .val (.int 0), .val (.double g1), .second, .val (.double s1), .second, .val (.double l1), .second, .val (.double g2), .second, .val (.double s2), .second, .val (.double l2), .second, rv pa, .val (.int 1)] [(.double (0 : UInt64)), (.double (0 : UInt64)), (.int 0), (.ref pa)]) (fun _ k => XS.dconst0 X273.here hx rfl (hb hby at_234) rfl k) ?_
    refine own_S (mkF m 236 #[iv sl, iv a1, iv b1, iv c1, iv d1, iv e1, .val (.int 1), .val (.int 0), .val (.double g1), .second, .val (.double s1), .second, .val (.double l1), .second, .val (.double g2), .second, .val (.double s2), .second, .val (.double l2), .second, rv pa, .val (.int 1)] [(.double FP.dconst1), (.double (0 : UInt64)), (.double (0 : UInt64)), (.int 0), (.ref pa)]) (fun _ k => XS.dconst1 X273.here hx rfl (hb hby at_235) rfl k) ?_
    obtain ⟨_, _, ⟨T275, L275, k275, n275⟩, -, X275, ⟨Lc275, hQ275, l275, y275, z275⟩, st275⟩ := Jvm.LawKit.callS X273 hx (y := own_y3) hown (mvT hZ (own_g hw (i := 45) rfl)) (mvT hZ (own_g hw (i := 46) rfl)) (mvT hZ (own_g hw (i := 47) rfl)) (mvT hZ (own_g hw (i := 48) rfl)) (by decide) (backOf (W := 0) (own_rmis0 l Z a0 hw [] (pa) (ng) (ns) (nl) (k3) (k4) (k5) ((0 : UInt64)) ((0 : UInt64)) (FP.dconst1) ((.double g1)) ((.double s1)) ((.double l1)) T258.heap n0 Z258 F260 F261 F262 F266 F267 F268 n_z n_z n_o) hZ (own_g hw (i := 48) rfl) (own_g hw (i := 47) rfl) (by decide) (by decide)) (g := (mkF m 236 #[iv sl, iv a1, iv b1, iv c1, iv d1, iv e1, .val (.int 1), .val (.int 0), .val (.double g1), .second, .val (.double s1), .second, .val (.double l1), .second, .val (.double g2), .second, .val (.double s2), .second, .val (.double l2), .second, rv pa, .val (.int 1)] [(.double FP.dconst1), (.double (0 : UInt64)), (.double (0 : UInt64)), (.int 0), (.ref pa)])) rfl (by rw [hml]; rfl) (argsL := [(.ref pa), (.int 0), (.double (0 : UInt64)), (.double (0 : UInt64)), (.double FP.dconst1)]) (rest := []) (lenOf own_pd__Lcom_example_accrue_accrue_exact_Paths_IDDD_Z rfl) rfl (by show 2 * 0 + _ ≤ _; exact Nat.le_of_eq rfl) (hb hby at_236) (fun _ _ => ⟨rfl, e273, (by decide : 7 + 0 ≤ _), (by decide : 18 + 0 ≤ _)⟩)
    dsimp only [Pt.U, Pt.locs, Pt.cells, Pt.slots] at X275 l275 y275 z275 st275 hQ275
    subst l275 y275 z275
    obtain ⟨rfl, N275q, e275⟩ := hQ275
    have N275 := Fr.app N273 N275q
    refine own_S (mkF m 239 #[iv sl, iv a1, iv b1, iv c1, iv d1, iv e1, .val (.int 1), .val (.int 0), .val (.double g1), .second, .val (.double s1), .second, .val (.double l1), .second, .val (.double g2), .second, .val (.double s2), .second, .val (.double l2), .second, rv pa, .val (.int 1)] [(.int 1)]) (fun _ k => st275 _ k) ?_
    have hc276 : ¬ ((1 : Int32) = (0 : Int32)) := by decide
    refine own_S (mkF m 242 #[iv sl, iv a1, iv b1, iv c1, iv d1, iv e1, .val (.int 1), .val (.int 0), .val (.double g1), .second, .val (.double s1), .second, .val (.double l1), .second, .val (.double g2), .second, .val (.double s2), .second, .val (.double l2), .second, rv pa, .val (.int 1)] []) (fun _ k => XS.ifNo X275.here hx rfl (hb hby at_239) rfl ((if0 _ _).trans (feq hc276).1) k) ?_
    refine own_S (mkF m 243 #[iv sl, iv a1, iv b1, iv c1, iv d1, iv e1, .val (.int 1), .val (.int 0), .val (.double g1), .second, .val (.double s1), .second, .val (.double l1), .second, .val (.double g2), .second, .val (.double s2), .second, .val (.double l2), .second, rv pa, .val (.int 1)] [(.int 1)]) (fun _ k => XS.iconst X275.here hx rfl (hb hby at_242) k) ?_
    refine own_S (mkF m 247 #[iv sl, iv a1, iv b1, iv c1, iv d1, iv e1, .val (.int 1), .val (.int 0), .val (.double g1), .second, .val (.double s1), .second, .val (.double l1), .second, .val (.double g2), .second, .val (.double s2), .second, .val (.double l2), .second, rv pa, .val (.int 1)] [(.int 1)]) (fun _ k => XS.goto X275.here hx rfl (pc0 := 243) (pc' := 247) rfl (hb hby at_243) (by decide) (by decide) k) ?_
    refine own_S (mkF m 249 #[iv sl, iv a1, iv b1, iv c1, iv d1, iv e1, .val (.int 1), .val (.int 0), .val (.double g1), .second, .val (.double s1), .second, .val (.double l1), .second, .val (.double g2), .second, .val (.double s2), .second, .val (.double l2), .second, rv pa, .val (.int 1)] []) (fun _ k => XS.istore X275.here hx rfl (hb hby at_247) rfl (l' := #[iv sl, iv a1, iv b1, iv c1, iv d1, iv e1, .val (.int 1), .val (.int 0), .val (.double g1), .second, .val (.double s1), .second, .val (.double l1), .second, .val (.double g2), .second, .val (.double s2), .second, .val (.double l2), .second, rv pa, .val (.int 1)]) rfl k) ?_
    refine own_S (mkF m 251 #[iv sl, iv a1, iv b1, iv c1, iv d1, iv e1, .val (.int 1), .val (.int 0), .val (.double g1), .second, .val (.double s1), .second, .val (.double l1), .second, .val (.double g2), .second, .val (.double s2), .second, .val (.double l2), .second, rv pa, .val (.int 1)] [(.int 1)]) (fun _ k => XS.iload X275.here hx rfl (hb hby at_249) rfl k) ?_
    exact own_retN X275 hx hlk (t := .boolean) hret (by simp) (hb hby at_251) (by rw [e275]; exact ⟨rfl, N275, trivial⟩) (by decide) (by decide)
set_option maxRecDepth 65536 in
set_option maxHeartbeats 40000000 in
theorem comes_1 {Post : Tables → Env → Array Value → State → Outcome → State → Prop} (hpost : ∀ tb e args s v u, (limb_1_1.after args s (.returned v) u = true ∧ limb_1_2.after args s (.returned v) u = true ∧ True) → FrameEnd s (.returned v) u (Jvm.fieldLocs frame_1_writes args s ++ Jvm.arrayLocs frame_1_arrays args s ++ Jvm.staticLocs frame_1_statics s) 24 128 → Post tb e args s (.returned v) u) :
    ArmFor flags0 classFile x code maxLocals ret World_1 tables_1 room_1 Calls_1 rest_1 Pre_1 Post := by
  intro l hfl _ _ p e ha hc hk s m args below hf hA hF happ hP
  obtain ⟨hcalls, hrest, hpre⟩ := hP
  obtain ⟨-, -, -, hnamed, -, -, -, hat⟩ := (Spec.applies_iff hf).mp happ
  obtain ⟨hg, hn⟩ := and_e (Cond.before_iff.mp (show (Jvm.Cond.and given_1 narrow_1).before args s = true from hpre))
  obtain ⟨h1, g0⟩ := and_e hg
  obtain ⟨k0, g1⟩ := and_e g0
  obtain ⟨k1, g2⟩ := and_e g1
  obtain ⟨k2, g3⟩ := and_e g2
  obtain ⟨k3, g4⟩ := and_e g3
  obtain ⟨k4, g5⟩ := and_e g4
  have k5 := g5
  obtain ⟨w0, w1, w2, w3, w4, w5, rfl⟩ : ∃ w0 w1 w2 w3 w4 w5 : Value, args = #[w0, w1, w2, w3, w4, w5] := by
    have hs : args.size = 6 := by simpa [Cond.value, given_1] using h1
    obtain ⟨L⟩ := args
    match L, hs with
    | [w0, w1, w2, w3, w4, w5], _ => exact ⟨w0, w1, w2, w3, w4, w5, rfl⟩
  have hw := fun d (hd : d ∈ tables_1) => atoms_spec (ws := Jvm.Cond.code x code maxLocals ret :: tables_1) hat d (List.mem_cons_of_mem _ hd)
  have hfit : Fit s := fun {y c} hc i hi => by
    obtain ⟨ha, rfl⟩ := Array.getElem?_eq_some_iff.mp hc
    have q := List.all_eq_true.mp ((Array.all_eq_true_iff_forall_mem.mp hF) _ (Array.getElem_mem ha)) i (List.mem_range.mpr hi)
    simpa [Array.getElem?_eq_getElem hi] using q
  obtain ⟨i0, q0⟩ := is_v k0
  obtain rfl : w0 = (.int i0) := Option.some.inj q0
  obtain ⟨i1, q1⟩ := is_v k1
  obtain rfl : w1 = (.int i1) := Option.some.inj q1
  obtain ⟨i2, q2⟩ := is_v k2
  obtain rfl : w2 = (.int i2) := Option.some.inj q2
  obtain ⟨i3, q3⟩ := is_v k3
  obtain rfl : w3 = (.int i3) := Option.some.inj q3
  obtain ⟨i4, q4⟩ := is_v k4
  obtain rfl : w4 = (.int i4) := Option.some.inj q4
  obtain ⟨i5, q5⟩ := is_v k5
  obtain rfl : w5 = (.int i5) := Option.some.inj q5
  obtain ⟨n, o, h1, h2, h3, _, L, rfl, ⟨rfl, N, -⟩, hq⟩ := own_rmlaw l s _ hw tables_1 i0 i1 i2 i3 i4 i5  s.heap s.heap.size (Nat.le_refl _)  p e ha hc hk s m _ below hf ((Spec.applies_iff_loose hf).mp happ).1 ⟨rfl, State.Warmed39.refl s, rfl⟩ trivial
  refine ⟨n, _, h1, h2, h3, hpost _ _ _ _ _ _ ⟨Cond.after_iff.mpr rfl, Cond.after_iff.mpr (eq_i res_at (Term.int_eval (1)) rfl), trivial⟩ ⟨hq.1, hq.2.1, (hq.2.2.sift fun y hy => Or.inr (N y hy)).mono (by decide) (by decide)⟩⟩
theorem main_1_1 : Claimed_1_1 := comes_1 fun _ _ _ _ _ _ h hF => ⟨h.1, hF⟩
theorem main_1_2 : Claimed_1_2 := comes_1 fun _ _ _ _ _ _ h hF => ⟨h.2.1, hF⟩
end Jvm.Pilot.@@N@@
namespace Jvm.Pilot.@@N@@
open Jvm Jvm.ClassFile Sem Op Lib Jvm.Free Jvm.Stand Jvm.Pilot.@@N@@.Jvm.D
/-! MADE BY PROGRAM (witnessworld.py) out of the Statement's table words and the real class files: 10 classes; the members and pool entries that the words name. The judged class is class 1, her method 1. -/
namespace start1
open Jvm.ClassFile
def u (s : String) : CpInfo := .utf8 (stringToUtf16 s)
/-- a pool by its gaps: so many unusable entries, then the entry; so many at the end -/
def gap : Nat → List CpInfo → List CpInfo
  | 0, r => r
  | n + 1, r => .unusable :: gap n r
def poolList (es : List (Nat × CpInfo)) (last : Nat) : List CpInfo := es.foldr (fun e r => gap e.1 (e.2 :: r)) (gap last [])
def pool (es : List (Nat × CpInfo)) (last : Nat) : Array CpInfo := ⟨poolList es last⟩
def fileOf (pool : Array CpInfo) (this : Nat) (attrs : Array Attribute := #[]) (ms : Array MethodInfo := #[]) (fl : Nat := 33) (sup : Nat := 0) (ifs : Array Nat := #[]) (fds : Array FieldInfo := #[]) : ClassFile where
  minorVersion := 0
  majorVersion := 65
  constantPool := pool
  accessFlags := fl
  thisClass := this
  superClass := sup
  interfaces := ifs
  fields := fds
  methods := ms
  attributes := attrs
def plain (name : String) (sup : Option ClassId) : Class where
  name := name
  kind := .ordinary
  loader := none
  accessFlags := 33
  super := sup
  interfaces := #[]
  cf := none
  fields := #[]
  methods := #[]
  instanceTypes := #[]
  staticTypes := #[]
  resolved := #[]
  callSites := []
  init := .initialized
  statics := none
  mirror := none

def pool0 : Array CpInfo := pool [(5, u "<init>"), (0, u "()V"), (1, .class_ 10), (1, u "java/lang/Object"), (85, u "clone"), (0, u "()Ljava/lang/Object;")] 26

def k0c0 : Code := { maxStack := 0, maxLocals := 1, code := object_method_1_code, exceptionTable := #[], attributes := #[] }
def k0m0 : Method := { name := "<init>", desc := "()V", sig := { parameters := [], returnType := none }, accessFlags := 1, code := some k0c0 }
def k0m1 : Method := { name := "clone", desc := "()Ljava/lang/Object;", sig := { parameters := [], returnType := some (.object "java/lang/Object") }, accessFlags := 260, code := none }
/-- java/lang/Object -/
def k0 : Class := { plain "java/lang/Object" none with
  accessFlags := 33
  interfaces := #[]
  cf := some (fileOf pool0 8 #[] #[{ accessFlags := 1, nameIndex := 5, descriptorIndex := 6, attributes := #[] }, { accessFlags := 260, nameIndex := 96, descriptorIndex := 97, attributes := #[] }] 33 0 #[] #[])
  fields := #[]
  methods := #[k0m0, k0m1]
  instanceTypes := #[]
  staticTypes := #[]
  resolved := Array.replicate 124 none
  statics := none }

def pool1 : Array CpInfo := pool [(2, .class_ 4), (1, u "java/lang/Object"), (0, u "<init>"), (0, u "()V"), (0, .class_ 8), (0, u "com/example/accrue/accrue/exact/Paths"), (0, .methodref 7 10), (0, .nameAndType 5 11), (0, u "(I)V"), (0, .methodref 7 13), (0, .nameAndType 14 15), (0, u "setNext"), (0, u "(IDDD)V"), (0, .methodref 7 17), (0, .nameAndType 18 6), (0, u "advance"), (0, .methodref 20 21), (0, .class_ 22), (0, .nameAndType 23 24), (0, u "com/example/accrue/accrue/exact/PathsAdvancePinLaw"), (0, u "is"), (0, u "(Lcom/example/accrue/accrue/exact/Paths;IDDD)Z"), (0, .fieldref 7 26), (0, .nameAndType 27 28), (0, u "gathered"), (0, u "[D"), (0, .fieldref 7 30), (0, .nameAndType 31 28), (0, u "staying"), (0, .fieldref 7 33), (0, .nameAndType 34 28), (0, u "leaving"), (2, u "law"), (0, u "(IIIIII)Z")] 3

def k1m0 : Method := { name := "<init>", desc := "()V", sig := { parameters := [], returnType := none }, accessFlags := 1, code := none }
def k1c1 : Code := { maxStack := 8, maxLocals := 22, code := code, exceptionTable := #[], attributes := #[] }
def k1m1 : Method := { name := "law", desc := "(IIIIII)Z", sig := { parameters := [.int, .int, .int, .int, .int, .int], returnType := some .boolean }, accessFlags := 9, code := some k1c1 }
def k1c2 : Code := { maxStack := 4, maxLocals := 8, code := method_3_code, exceptionTable := #[], attributes := #[] }
def k1m2 : Method := { name := "is", desc := "(Lcom/example/accrue/accrue/exact/Paths;IDDD)Z", sig := { parameters := [(.object "com/example/accrue/accrue/exact/Paths"), .int, .double, .double, .double], returnType := some .boolean }, accessFlags := 10, code := some k1c2 }
/-- com/example/accrue/accrue/exact/PathsAdvancePinLaw -/
def k1 : Class := { plain "com/example/accrue/accrue/exact/PathsAdvancePinLaw" (some 0) with
  accessFlags := 49
  interfaces := #[]
  cf := some (fileOf pool1 20 #[] #[{ accessFlags := 1, nameIndex := 5, descriptorIndex := 6, attributes := #[] }, { accessFlags := 9, nameIndex := 37, descriptorIndex := 38, attributes := #[] }, { accessFlags := 10, nameIndex := 23, descriptorIndex := 24, attributes := #[] }] 49 2 #[] #[])
  fields := #[]
  methods := #[k1m0, k1m1, k1m2]
  instanceTypes := #[]
  staticTypes := #[]
  resolved := Array.replicate 42 none
  statics := none }

def pool2 : Array CpInfo := pool [(1, .methodref 2 3), (0, .class_ 4), (0, .nameAndType 5 6), (0, u "java/lang/Object"), (0, u "<init>"), (0, u "()V"), (0, .fieldref 8 9), (0, .class_ 10), (0, .nameAndType 11 12), (0, u "com/example/accrue/accrue/exact/Paths"), (0, u "gathered"), (0, u "[D"), (0, .fieldref 8 14), (0, .nameAndType 15 12), (0, u "staying"), (0, .fieldref 8 17), (0, .nameAndType 18 12), (0, u "leaving"), (0, .methodref 20 21), (0, .class_ 22), (0, .nameAndType 23 24), (0, u "java/util/Arrays"), (0, u "fill"), (0, u "([DD)V"), (0, .methodref 26 27), (0, .class_ 12), (0, .nameAndType 28 29), (0, u "clone"), (0, u "()Ljava/lang/Object;"), (0, .fieldref 8 31), (0, .nameAndType 32 12), (0, u "nextGathered"), (0, .fieldref 8 34), (0, .nameAndType 35 12), (0, u "nextStaying"), (0, .fieldref 8 37), (0, .nameAndType 38 12), (0, u "nextLeaving"), (27, u "(I)V"), (8, u "setNext"), (0, u "(IDDD)V"), (0, u "advance")] 5

def k2c0 : Code := { maxStack := 3, maxLocals := 2, code := prog_28_method_1_code, exceptionTable := #[], attributes := #[] }
def k2m0 : Method := { name := "<init>", desc := "(I)V", sig := { parameters := [.int], returnType := none }, accessFlags := 0, code := some k2c0 }
def k2c1 : Code := { maxStack := 4, maxLocals := 8, code := prog_28_method_5_code, exceptionTable := #[], attributes := #[] }
def k2m1 : Method := { name := "setNext", desc := "(IDDD)V", sig := { parameters := [.int, .double, .double, .double], returnType := none }, accessFlags := 0, code := some k2c1 }
def k2c2 : Code := { maxStack := 2, maxLocals := 2, code := prog_28_method_6_code, exceptionTable := #[], attributes := #[] }
def k2m2 : Method := { name := "advance", desc := "()V", sig := { parameters := [], returnType := none }, accessFlags := 0, code := some k2c2 }
/-- com/example/accrue/accrue/exact/Paths -/
def k2 : Class := { plain "com/example/accrue/accrue/exact/Paths" (some 0) with
  accessFlags := 48
  interfaces := #[]
  cf := some (fileOf pool2 8 #[] #[{ accessFlags := 0, nameIndex := 5, descriptorIndex := 66, attributes := #[] }, { accessFlags := 0, nameIndex := 75, descriptorIndex := 76, attributes := #[] }, { accessFlags := 0, nameIndex := 77, descriptorIndex := 6, attributes := #[] }] 48 2 #[] #[{ accessFlags := 0, nameIndex := 11, descriptorIndex := 12, attributes := #[] }, { accessFlags := 0, nameIndex := 15, descriptorIndex := 12, attributes := #[] }, { accessFlags := 0, nameIndex := 18, descriptorIndex := 12, attributes := #[] }, { accessFlags := 2, nameIndex := 32, descriptorIndex := 12, attributes := #[] }, { accessFlags := 2, nameIndex := 35, descriptorIndex := 12, attributes := #[] }, { accessFlags := 2, nameIndex := 38, descriptorIndex := 12, attributes := #[] }])
  fields := #[{ name := "gathered", type := (.array .double), accessFlags := 0, slot := 0, constantValue := 0 }, { name := "staying", type := (.array .double), accessFlags := 0, slot := 1, constantValue := 0 }, { name := "leaving", type := (.array .double), accessFlags := 0, slot := 2, constantValue := 0 }, { name := "nextGathered", type := (.array .double), accessFlags := 2, slot := 3, constantValue := 0 }, { name := "nextStaying", type := (.array .double), accessFlags := 2, slot := 4, constantValue := 0 }, { name := "nextLeaving", type := (.array .double), accessFlags := 2, slot := 5, constantValue := 0 }]
  methods := #[k2m0, k2m1, k2m2]
  instanceTypes := #[(.array .double), (.array .double), (.array .double), (.array .double), (.array .double), (.array .double)]
  staticTypes := #[]
  resolved := Array.replicate 83 none
  statics := none }

def pool3 : Array CpInfo := pool [(2, .class_ 4), (1, u "java/lang/Object"), (0, u "<init>"), (0, u "()V"), (7, .class_ 16), (1, u "java/util/Arrays"), (57, .class_ 76), (1, u "java/util/Arrays$NaturalOrder"), (36, .class_ 115), (1, u "java/util/Arrays$LegacyMergeSort"), (1, u "Z"), (257, .class_ 376), (0, u "java/util/Arrays$ArrayList"), (68, u "$assertionsDisabled"), (269, u "MIN_ARRAY_SORT_GRAN"), (0, u "I"), (2, u "INSERTIONSORT_THRESHOLD"), (120, u "fill"), (13, u "([DD)V"), (120, .class_ 976), (0, u "java/util/Arrays$ArrayItr")] 52

def k3m0 : Method := { name := "<init>", desc := "()V", sig := { parameters := [], returnType := none }, accessFlags := 2, code := none }
def k3c1 : Code := { maxStack := 4, maxLocals := 5, code := jdk_65_method_113_code, exceptionTable := #[], attributes := #[] }
def k3m1 : Method := { name := "fill", desc := "([DD)V", sig := { parameters := [(.array .double), .double], returnType := none }, accessFlags := 9, code := some k3c1 }
/-- java/util/Arrays -/
def k3 : Class := { plain "java/util/Arrays" (some 0) with
  accessFlags := 49
  interfaces := #[]
  cf := some (fileOf pool3 14 #[.nestMembers #[975, 375, 113, 74]] #[{ accessFlags := 2, nameIndex := 5, descriptorIndex := 6, attributes := #[] }, { accessFlags := 9, nameIndex := 840, descriptorIndex := 854, attributes := #[] }] 49 2 #[] #[{ accessFlags := 26, nameIndex := 715, descriptorIndex := 716, attributes := #[] }, { accessFlags := 26, nameIndex := 719, descriptorIndex := 716, attributes := #[] }, { accessFlags := 4120, nameIndex := 445, descriptorIndex := 117, attributes := #[] }])
  fields := #[{ name := "MIN_ARRAY_SORT_GRAN", type := .int, accessFlags := 26, slot := 0, constantValue := 0 }, { name := "INSERTIONSORT_THRESHOLD", type := .int, accessFlags := 26, slot := 1, constantValue := 0 }, { name := "$assertionsDisabled", type := .boolean, accessFlags := 4120, slot := 2, constantValue := 0 }]
  methods := #[k3m0, k3m1]
  instanceTypes := #[]
  staticTypes := #[.int, .int, .boolean]
  resolved := Array.replicate 1029 none
  statics := none }

def pool4 : Array CpInfo := pool [(1, .class_ 2), (0, u "java/lang/Cloneable"), (0, .class_ 4), (0, u "java/lang/Object")] 2

/-- java/lang/Cloneable -/
def k4 : Class := { plain "java/lang/Cloneable" (some 0) with
  accessFlags := 1537
  interfaces := #[]
  cf := some (fileOf pool4 1 #[] #[] 1537 3 #[] #[])
  fields := #[]
  methods := #[]
  instanceTypes := #[]
  staticTypes := #[]
  resolved := Array.replicate 7 none
  statics := none }

def pool5 : Array CpInfo := pool [(1, u "java/io/Serializable"), (0, .class_ 1), (0, u "java/lang/Object"), (0, .class_ 3)] 3

/-- java/io/Serializable -/
def k5 : Class := { plain "java/io/Serializable" (some 0) with
  accessFlags := 1537
  interfaces := #[]
  cf := some (fileOf pool5 2 #[] #[] 1537 4 #[] #[])
  fields := #[]
  methods := #[]
  instanceTypes := #[]
  staticTypes := #[]
  resolved := Array.replicate 8 none
  statics := none }

/-- the primitive byte -/
def k6 : Class := { plain "byte" none with kind := .primitive 'B', accessFlags := 0x411 }
/-- [B -/
def k7 : Class := { plain "[B" (some 0) with kind := .array 6 .byte, interfaces := #[4, 5], accessFlags := 1041 }

/-- the primitive int -/
def k8 : Class := { plain "int" none with kind := .primitive 'I', accessFlags := 0x411 }
/-- [I -/
def k9 : Class := { plain "[I" (some 0) with kind := .array 8 .int, interfaces := #[4, 5], accessFlags := 1041 }

/-- the primitive double -/
def k10 : Class := { plain "double" none with kind := .primitive 'D', accessFlags := 0x411 }
/-- [D -/
def k11 : Class := { plain "[D" (some 0) with kind := .array 10 .double, interfaces := #[4, 5], accessFlags := 1041 }

def heap : Heap := #[]
def classes : Array Class := #[k0, k1, k2, k3, k4, k5, k6, k7, k8, k9, k10, k11]
def interned : List (Array UInt16 × Addr) := []
def slotsUsed : Nat := 0
def theMethod : MethodId := ⟨1, 1⟩
def args0 : Array Value := #[.int 5, .int 1, .int 2, .int 3, .int 4, .int 0]
def aboutOver (below : List Frame) : State where
  vm := { classes := classes, interned := interned.toArray }
  heap := heap
  slotsUsed := slotsUsed
  threads := #[{ frames := .invoking theMethod args0 :: below }]
def below0 : List Frame := [.native { method := ⟨0, 0⟩, args := #[] }]
def about1 : State := aboutOver below0
def p0 : Program := .bare "" "" ""
def e0 : Env := launch0.env 0 0 0
theorem w_frames : about1.frames = Frame.invoking theMethod args0 :: below0 := rfl
set_option maxRecDepth 65536 in
theorem w_args : argsFit about1.vm theMethod args0 = true := by decide +kernel
set_option maxRecDepth 65536 in
theorem w_heap : heapFits about1 = true := by decide +kernel
set_option maxRecDepth 65536 in
theorem w_runnable : about1.curStatus? = some .runnable := by decide +kernel
set_option maxRecDepth 65536 in
theorem w_alone : about1.alone = true := by decide +kernel
set_option maxRecDepth 65536 in
theorem w_named : about1.methodNamed? x = some theMethod := by decide +kernel
set_option maxRecDepth 65536 in
theorem w_hears : about1.hears theMethod below0 = true := by decide +kernel
set_option maxRecDepth 65536 in
theorem w_ripe : about1.ripe theMethod args0 below0 = true := by decide +kernel
theorem w_running : about1.status = .running := rfl
set_option maxRecDepth 65536 in
theorem w_room : about1.hasRoom e0.platform room_1 = true :=
  launch0.hasRoom_least _ room_1 (by decide +kernel) (by decide +kernel) (by decide +kernel) (by decide +kernel) (by decide +kernel) (by decide +kernel)
theorem allAtoms_all (ts : List Jvm.Cond) (a : Array Jvm.Value) (st : Jvm.State) : (allAtoms ts).before a st = ts.all (fun c => c.before a st) := by
  induction ts with
  | nil => rfl
  | cons c t ih =>
    show (Jvm.Cond.and c (allAtoms t)).before a st = _
    rw [Jvm.Cond.before_and, ih, List.all_cons]
def words1 : List Jvm.Cond := Jvm.Cond.code x code maxLocals ret :: tables_1
/-- a 'code' word, met by the world's own term for the bytes: nothing is compared byte by byte -/
theorem code_word {y : MethodName} {bytes : ByteArray} {mx : Nat} {rt : Option FieldType} {a : Array Value} {s : State} {m : MethodId} {meth : Method} {c : Code} (h1 : s.methodNamed? y = some m) (h2 : s.vm.method? m = some meth) (h3 : meth.code = some c) (h4 : c.code = bytes)
    (h5 : (c.maxLocals == mx && c.exceptionTable.isEmpty && decide (c.maxStack ≤ mostOperands) && decide (meth.sig.returnType = rt) && !meth.locks && decide (parseMethodDescriptor y.desc = some meth.sig)) = true) : (Jvm.Cond.code y bytes mx rt).before a s = true := by
  simp only [Bool.and_eq_true, beq_iff_eq, Bool.not_eq_true', decide_eq_true_eq] at h5
  obtain ⟨⟨⟨⟨⟨g1, g2⟩, g3⟩, g4⟩, g5⟩, g6⟩ := h5
  simp [Cond.before, Cond.holds, Cond.value, h1, h2, h3, h4, g1, g2, g3, g4, g5, g6]
def isCode : Jvm.Cond → Bool
  | .code _ _ _ _ => true
  | _ => false
theorem all_split {L : List Jvm.Cond} {P : Jvm.Cond → Bool} (h1 : L.all (fun c => isCode c || P c) = true) (h2 : ∀ c ∈ L.filter isCode, P c = true) : L.all P = true := by
  refine List.all_eq_true.mpr fun c hc => ?_
  have h := List.all_eq_true.mp h1 c hc
  rcases Bool.eq_false_or_eq_true (isCode c) with hi | hi
  · exact h2 c (List.mem_filter.mpr ⟨hc, hi⟩)
  · simpa [hi] using h
set_option maxRecDepth 65536 in
theorem w_c0 : (Jvm.Cond.code x code maxLocals ret).before args0 about1 = true := code_word (m := ⟨1, 1⟩) (meth := k1m1) (c := k1c1) (by decide +kernel) rfl rfl rfl (by decide +kernel)
set_option maxRecDepth 65536 in
theorem w_c1 : (Jvm.Cond.code ({ cls := "com/example/accrue/accrue/exact/Paths", name := "<init>", desc := "(I)V" } : Jvm.MethodName) prog_28_method_1_code (2 : Nat) (Option.none : Option Jvm.ClassFile.FieldType)).before args0 about1 = true := code_word (m := ⟨2, 0⟩) (meth := k2m0) (c := k2c0) (by decide +kernel) rfl rfl rfl (by decide +kernel)
set_option maxRecDepth 65536 in
theorem w_c2 : (Jvm.Cond.code ({ cls := "java/lang/Object", name := "<init>", desc := "()V" } : Jvm.MethodName) object_method_1_code (1 : Nat) (Option.none : Option Jvm.ClassFile.FieldType)).before args0 about1 = true := code_word (m := ⟨0, 0⟩) (meth := k0m0) (c := k0c0) (by decide +kernel) rfl rfl rfl (by decide +kernel)
set_option maxRecDepth 65536 in
theorem w_c3 : (Jvm.Cond.code ({ cls := "java/util/Arrays", name := "fill", desc := "([DD)V" } : Jvm.MethodName) jdk_65_method_113_code (5 : Nat) (Option.none : Option Jvm.ClassFile.FieldType)).before args0 about1 = true := code_word (m := ⟨3, 1⟩) (meth := k3m1) (c := k3c1) (by decide +kernel) rfl rfl rfl (by decide +kernel)
set_option maxRecDepth 65536 in
theorem w_c4 : (Jvm.Cond.code ({ cls := "com/example/accrue/accrue/exact/Paths", name := "setNext", desc := "(IDDD)V" } : Jvm.MethodName) prog_28_method_5_code (8 : Nat) (Option.none : Option Jvm.ClassFile.FieldType)).before args0 about1 = true := code_word (m := ⟨2, 1⟩) (meth := k2m1) (c := k2c1) (by decide +kernel) rfl rfl rfl (by decide +kernel)
set_option maxRecDepth 65536 in
theorem w_c5 : (Jvm.Cond.code ({ cls := "com/example/accrue/accrue/exact/Paths", name := "advance", desc := "()V" } : Jvm.MethodName) prog_28_method_6_code (2 : Nat) (Option.none : Option Jvm.ClassFile.FieldType)).before args0 about1 = true := code_word (m := ⟨2, 2⟩) (meth := k2m2) (c := k2c2) (by decide +kernel) rfl rfl rfl (by decide +kernel)
set_option maxRecDepth 65536 in
theorem w_c6 : (Jvm.Cond.code ({ cls := "com/example/accrue/accrue/exact/PathsAdvancePinLaw", name := "is", desc := "(Lcom/example/accrue/accrue/exact/Paths;IDDD)Z" } : Jvm.MethodName) method_3_code (8 : Nat) (Option.some Jvm.ClassFile.FieldType.boolean)).before args0 about1 = true := code_word (m := ⟨1, 2⟩) (meth := k1m2) (c := k1c2) (by decide +kernel) rfl rfl rfl (by decide +kernel)
def codes1 : List Jvm.Cond := [Jvm.Cond.code x code maxLocals ret, Jvm.Cond.code ({ cls := "com/example/accrue/accrue/exact/Paths", name := "<init>", desc := "(I)V" } : Jvm.MethodName) prog_28_method_1_code (2 : Nat) (Option.none : Option Jvm.ClassFile.FieldType), Jvm.Cond.code ({ cls := "java/lang/Object", name := "<init>", desc := "()V" } : Jvm.MethodName) object_method_1_code (1 : Nat) (Option.none : Option Jvm.ClassFile.FieldType), Jvm.Cond.code ({ cls := "java/util/Arrays", name := "fill", desc := "([DD)V" } : Jvm.MethodName) jdk_65_method_113_code (5 : Nat) (Option.none : Option Jvm.ClassFile.FieldType), Jvm.Cond.code ({ cls := "com/example/accrue/accrue/exact/Paths", name := "setNext", desc := "(IDDD)V" } : Jvm.MethodName) prog_28_method_5_code (8 : Nat) (Option.none : Option Jvm.ClassFile.FieldType), Jvm.Cond.code ({ cls := "com/example/accrue/accrue/exact/Paths", name := "advance", desc := "()V" } : Jvm.MethodName) prog_28_method_6_code (2 : Nat) (Option.none : Option Jvm.ClassFile.FieldType), Jvm.Cond.code ({ cls := "com/example/accrue/accrue/exact/PathsAdvancePinLaw", name := "is", desc := "(Lcom/example/accrue/accrue/exact/Paths;IDDD)Z" } : Jvm.MethodName) method_3_code (8 : Nat) (Option.some Jvm.ClassFile.FieldType.boolean)]
set_option maxRecDepth 65536 in
theorem codes_eq : words1.filter isCode = codes1 := rfl
theorem w_codes : ∀ c ∈ words1.filter isCode, c.before args0 about1 = true := by
  rw [codes_eq]
  intro c hc
  simp only [codes1, List.mem_cons, List.not_mem_nil, or_false] at hc
  rcases hc with rfl | rfl | rfl | rfl | rfl | rfl | rfl
  · exact w_c0
  · exact w_c1
  · exact w_c2
  · exact w_c3
  · exact w_c4
  · exact w_c5
  · exact w_c6
set_option maxRecDepth 65536 in
theorem w_t1 : (words1.take 24).all (fun c => isCode c || c.before args0 about1) = true := by decide +kernel
set_option maxRecDepth 65536 in
theorem w_t2 : ((words1.drop 24).take 24).all (fun c => isCode c || c.before args0 about1) = true := by decide +kernel
set_option maxRecDepth 65536 in
theorem w_t3 : ((words1.drop 24).drop 24).all (fun c => isCode c || c.before args0 about1) = true := by decide +kernel
theorem w_tables : (allAtoms (Jvm.Cond.code x code maxLocals ret :: tables_1)).before args0 about1 = true := by
  rw [allAtoms_all]
  show words1.all (fun c => c.before args0 about1) = true
  refine all_split ?_ w_codes
  rw [← List.take_append_drop 24 words1, List.all_append, w_t1, ← List.take_append_drop 24 (words1.drop 24), List.all_append, w_t2, w_t3]
  rfl
set_option maxRecDepth 65536 in
theorem w_case : (Jvm.Cond.and given_1 narrow_1).before args0 about1 = true := by decide +kernel
theorem w_applies : (headSpec (Jvm.Cond.code x code maxLocals ret :: tables_1) room_1).applies x e0.platform about1 = true :=
  (Spec.applies_iff w_frames).mpr ⟨w_running, w_runnable, w_alone, w_named, w_hears, w_ripe, w_room, w_tables⟩
theorem atStart : AtStart classFile x code maxLocals ret World_1 tables_1 room_1 Calls_1 rest_1 Pre_1 launch0 p0 e0 about1 theMethod args0 below0 :=
  ⟨lists_1, trivial, launch0.admits_env _ _ _, launch0.least_env, fairChoices_fair.cas, fairChoices_fair.clock, w_frames, w_args, w_heap, w_applies, trivial, trivial, w_case⟩
end start1
theorem witness_1 : WitnessClaimed_1 := ⟨start1.p0, start1.e0, start1.about1, start1.theMethod, start1.args0, start1.below0, start1.atStart⟩
end Jvm.Pilot.@@N@@
