import JvmDerived
import JvmDerived.Pilot.@@N@@Statement
import JvmDerived.Pilot.@@N@@Code
set_option linter.unusedVariables false
set_option linter.unusedSimpArgs false
namespace Jvm.Pilot.@@N@@
open Jvm Jvm.ClassFile Sem Op Lib Jvm.Free Jvm.Stand Jvm.LawKit Jvm.RoadKit Bundle Jvm.Pilot.@@N@@.Jvm.D
theorem own_g {Z : State} {a0 : Array Value} (hw : ∀ d ∈ tables_1, d.before a0 Z = true) {i : Nat} {d : Jvm.Cond} (h : tables_1[i]? = some d) : d.before a0 Z = true := hw _ (List.mem_of_getElem? h)
/-- the walk from the frame g in the state T comes to an end of which K holds -/
def own_E (p : Program) (e : Env) (below : List Frame) (K : Outcome → State → Prop) (T : State) (g : JFrame) : Prop := ∃ s₂ o, Steps p.tables e below (T.setTop g) s₂ ∧ s₂.status = .running ∧ Ended s₂ below o ∧ K o s₂
def own_K (s : State) (Q : Option Value → Heap → List Loc → Prop) (kc ks : Nat) (o : Outcome) (U : State) : Prop := ∃ v L, o = .returned v ∧ Q v U.heap L ∧ FrameEnd s o U L kc ks
section OwnKit
variable {p : Program} {l : Launch} {e : Env} {R : Room} {s : State} {m : MethodId} {args : Array Value} {below : List Frame} {meth : Method} {c : Code} {T T' : State} {locs : List Loc} {cells slots : Nat} {K : Outcome → State → Prop} {Z : State} {h h' : Heap}
theorem own_S {g : JFrame} (g' : JFrame) (st : ∀ t, Steps p.tables e below (T'.setTop g') t → Steps p.tables e below (T.setTop g) t) (k : own_E p e below K T' g') : own_E p e below K T g := by
  obtain ⟨s₂, o, h1, h2⟩ := k
  exact ⟨s₂, o, st _ h1, h2⟩
theorem own_s {g : JFrame} {t : State} (g' : JFrame) (st : ∀ t, Steps p.tables e below (T'.setTop g') t → Steps p.tables e below (T.setTop g) t) (k : Steps p.tables e below (T'.setTop g') t) : Steps p.tables e below (T.setTop g) t := st t k
theorem own_ret {Q : Option Value → Heap → List Loc → Prop} {kc ks : Nat} (X : Stand p l e R s m args below meth c T locs cells slots) (hx : p.tables.exec = Jvm.exec) (hlk : meth.locks = false) {pc : Nat} {Ls : Array Slot} {w : Value} {t : FieldType} {i : Instr} {rest : List Value} (hret : meth.sig.returnType = some t) (hn : narrow t w = w)
    (hi : (i = .ireturn ∧ (t = .int ∨ t = .boolean ∨ t = .byte ∨ t = .char ∨ t = .short) ∧ ∃ z, w = .int z) ∨ (i = .lreturn ∧ t = .long ∧ ∃ z, w = .long z) ∨ (i = .dreturn ∧ t = .double ∧ ∃ z, w = .double z) ∨ (i = .freturn ∧ t = .float ∧ ∃ z, w = .float z) ∨ (i = .areturn ∧ t.isReference = true ∧ w.isRef = true))
    (hd : decode c.code pc = .ok (i, 1)) (hQ : Q (some w) T.heap locs) (h1 : cells ≤ kc) (h2 : slots ≤ ks) : own_E p e below (own_K s Q kc ks) T (mkF m pc Ls (w :: rest)) := by
  obtain ⟨fs, hr, hrun, hended, hW, hsame⟩ := X.leave (v := some w) (fun h => by rw [hret] at h; cases h) hlk
  exact ⟨_, _, retOut X hx hret hn hi hd hr, hrun, hended, _, _, rfl, hQ, ⟨_, rfl⟩, hW, hsame.mono h1 h2⟩
theorem own_retN {Q : Option Value → Heap → List Loc → Prop} {kc ks : Nat} (X : Stand p l e R s m args below meth c T locs cells slots) (hx : p.tables.exec = Jvm.exec) (hlk : meth.locks = false) {pc : Nat} {Ls : Array Slot} {z : Int32} {t : FieldType} {rest : List Value} (hret : meth.sig.returnType = some t) (ht : t = .boolean ∨ t = .byte ∨ t = .char ∨ t = .short)
    (hd : decode c.code pc = .ok (.ireturn, 1)) (hQ : Q (some (.int (nar t z))) T.heap locs) (h1 : cells ≤ kc) (h2 : slots ≤ ks) : own_E p e below (own_K s Q kc ks) T (mkF m pc Ls (.int z :: rest)) := by
  obtain ⟨fs, hr, hrun, hended, hW, hsame⟩ := X.leave (v := some (.int (nar t z))) (fun h => by rw [hret] at h; cases h) hlk
  exact ⟨_, _, retN X hx hret ht hd hr, hrun, hended, _, _, rfl, hQ, ⟨_, rfl⟩, hW, hsame.mono h1 h2⟩
theorem own_ret0 {Q : Option Value → Heap → List Loc → Prop} {kc ks : Nat} (X : Stand p l e R s m args below meth c T locs cells slots) (hx : p.tables.exec = Jvm.exec) (hlk : meth.locks = false) {pc : Nat} {Ls : Array Slot} (hret : meth.sig.returnType = none)
    (hd : decode c.code pc = .ok (.return_, 1)) (hQ : Q none T.heap locs) (h1 : cells ≤ kc) (h2 : slots ≤ ks) : own_E p e below (own_K s Q kc ks) T (mkF m pc Ls []) := by
  obtain ⟨fs, hr, hrun, hended, hW, hsame⟩ := X.leave (v := none) (fun _ => rfl) hlk
  exact ⟨_, _, X.returnOut hx hret hd hr, hrun, hended, _, _, rfl, hQ, ⟨_, rfl⟩, hW, hsame.mono h1 h2⟩
theorem own_weak (X : Stand p l e R s m args below meth c T locs cells slots) {locs' : List Loc} {kc ks : Nat} (hl : ∀ y ∈ locs, y ∈ locs' ∨ s.heap.size ≤ y.base) (h1 : cells ≤ kc) (h2 : slots ≤ ks) : Stand p l e R s m args below meth c T locs' kc ks :=
  { X with same := (X.same.sift hl).mono h1 h2 }
theorem Sta_keep {C n d : String} {w : Value} {ws : List Addr} {n0 : Nat} (F : Sta Z h C n d w) (K : Keep h h' ws) (hn : ∀ a ∈ ws, ∀ cell : Cell, h[a]? = some cell → cell.vm.isStatics = false) : Sta Z h' C n d w := by
  obtain ⟨cf, i, k, f, st, cell, h1, h2, h3, h4, h5, h6, h7⟩ := F
  exact ⟨cf, i, k, f, st, cell, h1, h2, h3, h4, K.2.1 st cell h5 (fun q => by have := hn st q cell h5; rw [h6] at this; cases this), h6, h7⟩
theorem Ins_keep {a : Addr} {C : String} {b : Bool} {ws : List Addr} (F : Ins Z h a C b) (K : Keep h h' ws) : Ins Z h' a C b := by
  obtain ⟨cell, cT, h1, h2, h3⟩ := F
  obtain ⟨c', q1, q2, q3, -⟩ := K.2.2 a cell h1
  exact ⟨c', cT, q1, h2, by rw [q2, q3]; exact h3⟩
end OwnKit
/-- an array whose places hold vs -/
def own_Ar (Z : State) (h : Heap) (a : Addr) (k : ClassId) (ty : FieldType) (vs : List Value) : Prop := ∃ c : Cell, Arr Z h a c ty ∧ c.cls = k ∧ c.slots = vs.toArray
section OwnArr
variable {p : Program} {l : Launch} {e : Env} {R : Room} {s : State} {m : MethodId} {args : Array Value} {below : List Frame} {meth : Method} {c : Code} {T : State} {locs : List Loc} {cells slots : Nat} {Z : State} {h h' : Heap} {a b : Addr} {k : ClassId} {ty : FieldType} {vs : List Value} {v : Value}
theorem own_Ar.lt (F : own_Ar Z h a k ty vs) : a < h.size := by obtain ⟨c, A, -⟩ := F; exact A.lt
theorem own_Ar.ext (F : own_Ar Z h a k ty vs) (E : Ext h h') : own_Ar Z h' a k ty vs := by obtain ⟨c, A, r⟩ := F; exact ⟨c, A.ext E, r⟩
theorem own_Ar.other {sl : Nat} (F : own_Ar Z h b k ty vs) (W : Wr h h' a sl v) (q : b ≠ a) : own_Ar Z h' b k ty vs := by obtain ⟨c, A, r⟩ := F; exact ⟨c, A.other W q, r⟩
theorem own_Ar.keep {ws : List Addr} (F : own_Ar Z h a k ty vs) (K : Keep h h' ws) (q : a ∉ ws) : own_Ar Z h' a k ty vs := by obtain ⟨c, A, r⟩ := F; exact ⟨c, ⟨K.2.1 a c A.1 q, A.2⟩, r⟩
theorem own_Ar.new {z : Int32} (A : Arr Z h a (newA k ty z) ty) {n : Nat} (hn : z.toNatClampNeg = n) : own_Ar Z h a k ty (List.replicate n (defaultValue ty)) := ⟨_, A, rfl, by
  subst hn
  show Array.replicate _ _ = _
  simp⟩
theorem own_Ar.set {j : Nat} (F : own_Ar Z h a k ty vs) (W : Wr h h' a j v) : own_Ar Z h' a k ty (vs.set j v) := by
  obtain ⟨c, A, hk, hs⟩ := F
  refine ⟨c.setSlot j v, A.same W, hk, ?_⟩
  show c.slots.setIfInBounds j v = _
  rw [hs]
  simp
theorem own_in {c : Cell} (hs : c.slots = vs.toArray) {j : Int32} (hj : ¬ j < 0) (hl : j.toNatClampNeg < vs.length) : ¬ (j < 0 ∨ c.slots.size ≤ j.toNatClampNeg) := by
  rw [hs]
  simp only [List.size_toArray]
  intro q
  rcases q with q | q
  · exact hj q
  · omega
theorem own_lt_of {i : Nat} (hv : vs[i]? = some v) : i < vs.length := (List.getElem?_eq_some_iff.mp hv).1
theorem own_get {c : Cell} (hs : c.slots = vs.toArray) {i : Nat} (hv : vs[i]? = some v) : c.slots[i]? = some v := by rw [hs]; simpa using hv
theorem own_ldI (X : Stand p l e R s m args below meth c T locs cells slots) (hx : p.tables.exec = Jvm.exec) (hZ : Z.Warmed39 s.vm) (eT : T.heap = h) (F : own_Ar Z h a k .int vs) {j : Int32} (hj : ¬ j < 0) (hv : vs[j.toNatClampNeg]? = some v) {g : JFrame} (hg : g.method = m) {rest : List Value} (hs : g.stack = .int j :: .ref a :: rest) (hd : decode c.code g.pc = .ok (.iaload, 1)) :
    ∀ t, Steps p.tables e below (T.setTop { g with pc := g.pc + 1, stack := v :: rest }) t → Steps p.tables e below (T.setTop g) t := fun t q => by
  obtain ⟨cl, A, -, hs'⟩ := F
  exact X.iaload hx (by rw [eT]; exact A.1) (State.isArrayOf_alike hZ.alike A.2.1) A.2.2 (own_in hs' hj (own_lt_of hv)) (own_get hs' hv) hg hs hd t q
theorem own_ldJ (X : Stand p l e R s m args below meth c T locs cells slots) (hx : p.tables.exec = Jvm.exec) (hZ : Z.Warmed39 s.vm) (eT : T.heap = h) (F : own_Ar Z h a k .long vs) {j : Int32} (hj : ¬ j < 0) (hv : vs[j.toNatClampNeg]? = some v) {g : JFrame} (hg : g.method = m) {rest : List Value} (hs : g.stack = .int j :: .ref a :: rest) (hd : decode c.code g.pc = .ok (.laload, 1)) :
    ∀ t, Steps p.tables e below (T.setTop { g with pc := g.pc + 1, stack := v :: rest }) t → Steps p.tables e below (T.setTop g) t := fun t q => by
  obtain ⟨cl, A, -, hs'⟩ := F
  exact X.laload hx (by rw [eT]; exact A.1) (State.isArrayOf_alike hZ.alike A.2.1) A.2.2 (own_in hs' hj (own_lt_of hv)) (own_get hs' hv) hg hs hd t q
theorem own_ldZ (X : Stand p l e R s m args below meth c T locs cells slots) (hx : p.tables.exec = Jvm.exec) (hZ : Z.Warmed39 s.vm) (eT : T.heap = h) (F : own_Ar Z h a k .boolean vs) {j : Int32} (hj : ¬ j < 0) (hv : vs[j.toNatClampNeg]? = some v) {g : JFrame} (hg : g.method = m) {rest : List Value} (hs : g.stack = .int j :: .ref a :: rest) (hd : decode c.code g.pc = .ok (.baload, 1)) :
    ∀ t, Steps p.tables e below (T.setTop { g with pc := g.pc + 1, stack := v :: rest }) t → Steps p.tables e below (T.setTop g) t := fun t q => by
  obtain ⟨cl, A, -, hs'⟩ := F
  exact X.baloadBooleans hx (by rw [eT]; exact A.1) (State.isArrayOf_alike hZ.alike A.2.1) A.2.2 (own_in hs' hj (own_lt_of hv)) (own_get hs' hv) hg hs hd t q
theorem own_ldR (X : Stand p l e R s m args below meth c T locs cells slots) (hx : p.tables.exec = Jvm.exec) (hZ : Z.Warmed39 s.vm) (eT : T.heap = h) (F : own_Ar Z h a k ty vs) {j : Int32} (hj : ¬ j < 0) (hv : vs[j.toNatClampNeg]? = some v) (hty : ty.isReference = true) {g : JFrame} (hg : g.method = m) {rest : List Value} (hs : g.stack = .int j :: .ref a :: rest) (hd : decode c.code g.pc = .ok (.aaload, 1)) :
    ∀ t, Steps p.tables e below (T.setTop { g with pc := g.pc + 1, stack := v :: rest }) t → Steps p.tables e below (T.setTop g) t := fun t q => by
  obtain ⟨cl, A, -, hs'⟩ := F
  exact X.aaload hx (by rw [eT]; exact A.1) (State.isArrayOf_alike hZ.alike A.2.1) hty A.2.2 (own_in hs' hj (own_lt_of hv)) (own_get hs' hv) hg hs hd t q
theorem own_alen (X : Stand p l e R s m args below meth c T locs cells slots) (hx : p.tables.exec = Jvm.exec) (hZ : Z.Warmed39 s.vm) (eT : T.heap = h) (F : own_Ar Z h a k ty vs) {g : JFrame} (hg : g.method = m) {rest : List Value} (hs : g.stack = .ref a :: rest) (hd : decode c.code g.pc = .ok (.arraylength, 1)) :
    ∀ t, Steps p.tables e below (T.setTop { g with pc := g.pc + 1, stack := .int vs.length.toInt32 :: rest }) t → Steps p.tables e below (T.setTop g) t := fun t q => by
  obtain ⟨cl, A, -, hs'⟩ := F
  have hl : cl.slots.size = vs.length := by rw [hs']; simp
  rw [← hl] at q
  exact X.arraylength hx (by rw [eT]; exact A.1) (State.isArrayOf_alike hZ.alike A.2.1) hg hs hd t q
theorem own_stI (X : Stand p l e R s m args below meth c T locs cells slots) (hx : p.tables.exec = Jvm.exec) (hZ : Z.Warmed39 s.vm) (eT : T.heap = h) (F : own_Ar Z h a k .int vs) {j x : Int32} (hj : ¬ j < 0) (hl : j.toNatClampNeg < vs.length) {g : JFrame} (hg : g.method = m) {rest : List Value} (hs : g.stack = .int x :: .int j :: .ref a :: rest) (hd : decode c.code g.pc = .ok (.iastore, 1)) :
    ∃ T' h', Stand p l e R s m args below meth c T' (locs ++ [⟨a, j.toNatClampNeg⟩]) cells slots ∧ T'.heap = h' ∧ Wr h h' a j.toNatClampNeg (.int x) ∧ own_Ar Z h' a k .int (vs.set j.toNatClampNeg (.int x)) ∧ ∀ t, Steps p.tables e below (T'.setTop { g with pc := g.pc + 1, stack := rest }) t → Steps p.tables e below (T.setTop g) t := by
  have F0 := F
  obtain ⟨cl, A, -, hs'⟩ := F
  obtain ⟨T', h', X', e', W, st⟩ := stI X hx hZ eT A (own_in hs' hj hl) hg hs hd
  exact ⟨T', h', X', e', W, F0.set W, st⟩
theorem own_stJ (X : Stand p l e R s m args below meth c T locs cells slots) (hx : p.tables.exec = Jvm.exec) (hZ : Z.Warmed39 s.vm) (eT : T.heap = h) (F : own_Ar Z h a k .long vs) {j : Int32} {x : Int64} (hj : ¬ j < 0) (hl : j.toNatClampNeg < vs.length) {g : JFrame} (hg : g.method = m) {rest : List Value} (hs : g.stack = .long x :: .int j :: .ref a :: rest) (hd : decode c.code g.pc = .ok (.lastore, 1)) :
    ∃ T' h', Stand p l e R s m args below meth c T' (locs ++ [⟨a, j.toNatClampNeg⟩]) cells slots ∧ T'.heap = h' ∧ Wr h h' a j.toNatClampNeg (.long x) ∧ own_Ar Z h' a k .long (vs.set j.toNatClampNeg (.long x)) ∧ ∀ t, Steps p.tables e below (T'.setTop { g with pc := g.pc + 1, stack := rest }) t → Steps p.tables e below (T.setTop g) t := by
  have F0 := F
  obtain ⟨cl, A, -, hs'⟩ := F
  obtain ⟨T', h', X', e', W, st⟩ := stJ X hx hZ eT A (own_in hs' hj hl) hg hs hd
  exact ⟨T', h', X', e', W, F0.set W, st⟩
theorem own_stZ (X : Stand p l e R s m args below meth c T locs cells slots) (hx : p.tables.exec = Jvm.exec) (hZ : Z.Warmed39 s.vm) (eT : T.heap = h) (F : own_Ar Z h a k .boolean vs) {j x : Int32} (hj : ¬ j < 0) (hl : j.toNatClampNeg < vs.length) {g : JFrame} (hg : g.method = m) {rest : List Value} (hs : g.stack = .int x :: .int j :: .ref a :: rest) (hd : decode c.code g.pc = .ok (.bastore, 1)) :
    ∃ T' h', Stand p l e R s m args below meth c T' (locs ++ [⟨a, j.toNatClampNeg⟩]) cells slots ∧ T'.heap = h' ∧ Wr h h' a j.toNatClampNeg (.int (nar .boolean x)) ∧ own_Ar Z h' a k .boolean (vs.set j.toNatClampNeg (.int (nar .boolean x))) ∧ ∀ t, Steps p.tables e below (T'.setTop { g with pc := g.pc + 1, stack := rest }) t → Steps p.tables e below (T.setTop g) t := by
  have F0 := F
  obtain ⟨cl, A, -, hs'⟩ := F
  obtain ⟨T', h', X', e', W, st⟩ := stZ X hx hZ eT A (own_in hs' hj hl) hg hs hd
  exact ⟨T', h', X', e', W, F0.set W, st⟩
theorem own_ldC (X : Stand p l e R s m args below meth c T locs cells slots) (hx : p.tables.exec = Jvm.exec) (hZ : Z.Warmed39 s.vm) (eT : T.heap = h) (F : own_Ar Z h a k .char vs) {j : Int32} (hj : ¬ j < 0) (hv : vs[j.toNatClampNeg]? = some v) {g : JFrame} (hg : g.method = m) {rest : List Value} (hs : g.stack = .int j :: .ref a :: rest) (hd : decode c.code g.pc = .ok (.caload, 1)) :
    ∀ t, Steps p.tables e below (T.setTop { g with pc := g.pc + 1, stack := v :: rest }) t → Steps p.tables e below (T.setTop g) t := fun t q => by
  obtain ⟨cl, A, -, hs'⟩ := F
  exact X.caload hx (by rw [eT]; exact A.1) (State.isArrayOf_alike hZ.alike A.2.1) A.2.2 (own_in hs' hj (own_lt_of hv)) (own_get hs' hv) hg hs hd t q
theorem own_stC (X : Stand p l e R s m args below meth c T locs cells slots) (hx : p.tables.exec = Jvm.exec) (hZ : Z.Warmed39 s.vm) (eT : T.heap = h) (F : own_Ar Z h a k .char vs) {j x : Int32} (hj : ¬ j < 0) (hl : j.toNatClampNeg < vs.length) {g : JFrame} (hg : g.method = m) {rest : List Value} (hs : g.stack = .int x :: .int j :: .ref a :: rest) (hd : decode c.code g.pc = .ok (.castore, 1)) :
    ∃ T' h', Stand p l e R s m args below meth c T' (locs ++ [⟨a, j.toNatClampNeg⟩]) cells slots ∧ T'.heap = h' ∧ Wr h h' a j.toNatClampNeg (.int (nar .char x)) ∧ own_Ar Z h' a k .char (vs.set j.toNatClampNeg (.int (nar .char x))) ∧ ∀ t, Steps p.tables e below (T'.setTop { g with pc := g.pc + 1, stack := rest }) t → Steps p.tables e below (T.setTop g) t := by
  have F0 := F
  obtain ⟨cl, A, -, hs'⟩ := F
  obtain ⟨T', h', X', e', W, st⟩ := stC X hx hZ eT A (own_in hs' hj hl) hg hs hd
  exact ⟨T', h', X', e', W, F0.set W, st⟩
theorem own_stB (X : Stand p l e R s m args below meth c T locs cells slots) (hx : p.tables.exec = Jvm.exec) (hZ : Z.Warmed39 s.vm) (eT : T.heap = h) (F : own_Ar Z h a k .byte vs) {j x : Int32} (hj : ¬ j < 0) (hl : j.toNatClampNeg < vs.length) {g : JFrame} (hg : g.method = m) {rest : List Value} (hs : g.stack = .int x :: .int j :: .ref a :: rest) (hd : decode c.code g.pc = .ok (.bastore, 1)) :
    ∃ T' h', Stand p l e R s m args below meth c T' (locs ++ [⟨a, j.toNatClampNeg⟩]) cells slots ∧ T'.heap = h' ∧ Wr h h' a j.toNatClampNeg (.int (nar .byte x)) ∧ own_Ar Z h' a k .byte (vs.set j.toNatClampNeg (.int (nar .byte x))) ∧ ∀ t, Steps p.tables e below (T'.setTop { g with pc := g.pc + 1, stack := rest }) t → Steps p.tables e below (T.setTop g) t := by
  have F0 := F
  obtain ⟨cl, A, -, hs'⟩ := F
  obtain ⟨T', h', X', e', W, st⟩ := stB X hx hZ eT A (own_in hs' hj hl) hg hs hd
  exact ⟨T', h', X', e', W, F0.set W, st⟩
theorem own_stR {C : String} {y : Addr} (X : Stand p l e R s m args below meth c T locs cells slots) (hx : p.tables.exec = Jvm.exec) (hZ : Z.Warmed39 s.vm) (eT : T.heap = h) (F : own_Ar Z h a k (.object C) vs) (O : Ovr Z k C) (I : Ins Z h y C true) {j : Int32} (hj : ¬ j < 0) (hl : j.toNatClampNeg < vs.length) {g : JFrame} (hg : g.method = m) {rest : List Value} (hs : g.stack = .ref y :: .int j :: .ref a :: rest) (hd : decode c.code g.pc = .ok (.aastore, 1)) :
    ∃ T' h', Stand p l e R s m args below meth c T' (locs ++ [⟨a, j.toNatClampNeg⟩]) cells slots ∧ T'.heap = h' ∧ Wr h h' a j.toNatClampNeg (.ref y) ∧ own_Ar Z h' a k (.object C) (vs.set j.toNatClampNeg (.ref y)) ∧ ∀ t, Steps p.tables e below (T'.setTop { g with pc := g.pc + 1, stack := rest }) t → Steps p.tables e below (T.setTop g) t := by
  have F0 := F
  obtain ⟨cl, A, hk, hs'⟩ := F
  obtain ⟨T', h', X', e', W, st⟩ := stR X hx hZ eT A (own_in hs' hj hl) rfl (Sto.ofV A hk O I) hg hs hd
  exact ⟨T', h', X', e', W, F0.set W, st⟩
theorem own_ar_plain (F : own_Ar Z h a k ty vs) : ∀ cell : Cell, h[a]? = some cell → cell.vm.isStatics = false := fun cell hc => by
  obtain ⟨c1, A, -⟩ := F
  cases A.1.symm.trans hc
  exact A.plain
end OwnArr
def own_mv1 (i l m f t : Int32) : Int32 := if i < f then m else (if i < t then (m + l) else m)
def own_moves (l0 l1 l2 l3 l4 l5 f t : Int32) : Int32 := own_mv1 5 l5 (own_mv1 4 l4 (own_mv1 3 l3 (own_mv1 2 l2 (own_mv1 1 l1 (own_mv1 0 l0 0 f t) f t) f t) f t) f t) f t
def own_R (l0 l1 l2 l3 l4 l5 j : Int32) : Int32 := if j = 0 then 0 else if j = 1 then l0 else if j = 2 then (l0 + l1) else if j = 3 then ((l0 + l1) + l2) else if j = 4 then (((l0 + l1) + l2) + l3) else if j = 5 then ((((l0 + l1) + l2) + l3) + l4) else (((((l0 + l1) + l2) + l3) + l4) + l5)
/-- a cut: 0 to 6 -/
def own_B7 (j : Int32) : Prop := ¬ j < (0 : Int32) ∧ (j = 0 ∨ j = 1 ∨ j = 2 ∨ j = 3 ∨ j = 4 ∨ j = 5 ∨ j = 6)
theorem own_b0 : own_B7 0 := ⟨by decide, by decide⟩
theorem own_b6 : own_B7 6 := ⟨by decide, by decide⟩
theorem own_m7 (x i : Int32) (h : i = (x &&& (2147483647 : Int32)) % (7 : Int32)) : own_B7 i := by
  have hm := c_mask x 2147483647 31 (by decide) (by decide)
  have hi : i.toInt = ((x &&& (2147483647 : Int32)).toInt).tmod 7 := by rw [h, Int32.toInt_mod]; rfl
  have e0 : (0 : Int32).toInt = 0 := rfl
  have e1 : (1 : Int32).toInt = 1 := rfl
  have e2 : (2 : Int32).toInt = 2 := rfl
  have e3 : (3 : Int32).toInt = 3 := rfl
  have e4 : (4 : Int32).toInt = 4 := rfl
  have e5 : (5 : Int32).toInt = 5 := rfl
  have e6 : (6 : Int32).toInt = 6 := rfl
  unfold own_B7
  simp only [← Int32.toInt_inj, Int32.lt_iff_toInt_lt]
  rw [Int.tmod_eq_emod_of_nonneg (by omega)] at hi
  omega
theorem own_b7lo (x y z : Int32) (h : z = if y < x then y else x) (hx : own_B7 x) (hy : own_B7 y) : own_B7 z := by rw [h]; split <;> assumption
theorem own_b7hi (x y z : Int32) (h : z = if x < y then y else x) (hx : own_B7 x) (hy : own_B7 y) : own_B7 z := by rw [h]; split <;> assumption
theorem own_lohi (x y lo hi : Int32) (h1 : lo = if y < x then y else x) (h2 : hi = if x < y then y else x) : ¬ hi < lo := by
  subst h1 h2
  by_cases a : y < x <;> by_cases b : x < y <;> simp only [a, b, if_true, if_false, Int32.lt_iff_toInt_lt] at * <;> omega
theorem own_l0 {j : Int32} (h : own_B7 j) : ¬ j < (0 : Int32) := h.1
theorem own_l6 {j : Int32} (h : own_B7 j) : ¬ (6 : Int32) < j := by
  obtain ⟨-, h⟩ := h
  rcases h with rfl | rfl | rfl | rfl | rfl | rfl | rfl <;> decide
theorem own_l06 : ¬ (6 : Int32) < (0 : Int32) := by decide
theorem own_and3 (x : Int32) : (x &&& (3 : Int32)) = 0 ∨ (x &&& (3 : Int32)) = 1 ∨ (x &&& (3 : Int32)) = 2 ∨ (x &&& (3 : Int32)) = 3 := by
  have h := c_mask x 3 2 (by decide) (by decide)
  have e0 : (0 : Int32).toInt = 0 := rfl
  have e1 : (1 : Int32).toInt = 1 := rfl
  have e2 : (2 : Int32).toInt = 2 := rfl
  have e3 : (3 : Int32).toInt = 3 := rfl
  simp only [← Int32.toInt_inj]
  omega
theorem own_Rat (l0 l1 l2 l3 l4 l5 j : Int32) (h : own_B7 j) : ([(.int (0 : Int32)), (.int l0), (.int (l0 + l1)), (.int ((l0 + l1) + l2)), (.int (((l0 + l1) + l2) + l3)), (.int ((((l0 + l1) + l2) + l3) + l4)), (.int (((((l0 + l1) + l2) + l3) + l4) + l5))] : List Value)[(j).toNatClampNeg]? = some (.int (own_R l0 l1 l2 l3 l4 l5 j)) := by
  obtain ⟨-, h⟩ := h
  rcases h with rfl | rfl | rfl | rfl | rfl | rfl | rfl <;> rfl
theorem own_law_0_0 (l0 l1 l2 l3 l4 l5 : Int32) : own_R l0 l1 l2 l3 l4 l5 0 - own_R l0 l1 l2 l3 l4 l5 0 = own_moves l0 l1 l2 l3 l4 l5 0 0 := by
  show (0 : Int32) - 0 = (0 : Int32)
  grind
theorem own_law_0_1 (l0 l1 l2 l3 l4 l5 : Int32) : own_R l0 l1 l2 l3 l4 l5 1 - own_R l0 l1 l2 l3 l4 l5 0 = own_moves l0 l1 l2 l3 l4 l5 0 1 := by
  show (l0 : Int32) - 0 = (0 : Int32) + l0
  grind
theorem own_law_0_2 (l0 l1 l2 l3 l4 l5 : Int32) : own_R l0 l1 l2 l3 l4 l5 2 - own_R l0 l1 l2 l3 l4 l5 0 = own_moves l0 l1 l2 l3 l4 l5 0 2 := by
  show ((l0 + l1) : Int32) - 0 = (0 : Int32) + l0 + l1
  grind
theorem own_law_0_3 (l0 l1 l2 l3 l4 l5 : Int32) : own_R l0 l1 l2 l3 l4 l5 3 - own_R l0 l1 l2 l3 l4 l5 0 = own_moves l0 l1 l2 l3 l4 l5 0 3 := by
  show (((l0 + l1) + l2) : Int32) - 0 = (0 : Int32) + l0 + l1 + l2
  grind
theorem own_law_0_4 (l0 l1 l2 l3 l4 l5 : Int32) : own_R l0 l1 l2 l3 l4 l5 4 - own_R l0 l1 l2 l3 l4 l5 0 = own_moves l0 l1 l2 l3 l4 l5 0 4 := by
  show ((((l0 + l1) + l2) + l3) : Int32) - 0 = (0 : Int32) + l0 + l1 + l2 + l3
  grind
theorem own_law_0_5 (l0 l1 l2 l3 l4 l5 : Int32) : own_R l0 l1 l2 l3 l4 l5 5 - own_R l0 l1 l2 l3 l4 l5 0 = own_moves l0 l1 l2 l3 l4 l5 0 5 := by
  show (((((l0 + l1) + l2) + l3) + l4) : Int32) - 0 = (0 : Int32) + l0 + l1 + l2 + l3 + l4
  grind
theorem own_law_0_6 (l0 l1 l2 l3 l4 l5 : Int32) : own_R l0 l1 l2 l3 l4 l5 6 - own_R l0 l1 l2 l3 l4 l5 0 = own_moves l0 l1 l2 l3 l4 l5 0 6 := by
  show ((((((l0 + l1) + l2) + l3) + l4) + l5) : Int32) - 0 = (0 : Int32) + l0 + l1 + l2 + l3 + l4 + l5
  grind
theorem own_law_1_1 (l0 l1 l2 l3 l4 l5 : Int32) : own_R l0 l1 l2 l3 l4 l5 1 - own_R l0 l1 l2 l3 l4 l5 1 = own_moves l0 l1 l2 l3 l4 l5 1 1 := by
  show (l0 : Int32) - l0 = (0 : Int32)
  grind
theorem own_law_1_2 (l0 l1 l2 l3 l4 l5 : Int32) : own_R l0 l1 l2 l3 l4 l5 2 - own_R l0 l1 l2 l3 l4 l5 1 = own_moves l0 l1 l2 l3 l4 l5 1 2 := by
  show ((l0 + l1) : Int32) - l0 = (0 : Int32) + l1
  grind
theorem own_law_1_3 (l0 l1 l2 l3 l4 l5 : Int32) : own_R l0 l1 l2 l3 l4 l5 3 - own_R l0 l1 l2 l3 l4 l5 1 = own_moves l0 l1 l2 l3 l4 l5 1 3 := by
  show (((l0 + l1) + l2) : Int32) - l0 = (0 : Int32) + l1 + l2
  grind
theorem own_law_1_4 (l0 l1 l2 l3 l4 l5 : Int32) : own_R l0 l1 l2 l3 l4 l5 4 - own_R l0 l1 l2 l3 l4 l5 1 = own_moves l0 l1 l2 l3 l4 l5 1 4 := by
  show ((((l0 + l1) + l2) + l3) : Int32) - l0 = (0 : Int32) + l1 + l2 + l3
  grind
theorem own_law_1_5 (l0 l1 l2 l3 l4 l5 : Int32) : own_R l0 l1 l2 l3 l4 l5 5 - own_R l0 l1 l2 l3 l4 l5 1 = own_moves l0 l1 l2 l3 l4 l5 1 5 := by
  show (((((l0 + l1) + l2) + l3) + l4) : Int32) - l0 = (0 : Int32) + l1 + l2 + l3 + l4
  grind
theorem own_law_1_6 (l0 l1 l2 l3 l4 l5 : Int32) : own_R l0 l1 l2 l3 l4 l5 6 - own_R l0 l1 l2 l3 l4 l5 1 = own_moves l0 l1 l2 l3 l4 l5 1 6 := by
  show ((((((l0 + l1) + l2) + l3) + l4) + l5) : Int32) - l0 = (0 : Int32) + l1 + l2 + l3 + l4 + l5
  grind
theorem own_law_2_2 (l0 l1 l2 l3 l4 l5 : Int32) : own_R l0 l1 l2 l3 l4 l5 2 - own_R l0 l1 l2 l3 l4 l5 2 = own_moves l0 l1 l2 l3 l4 l5 2 2 := by
  show ((l0 + l1) : Int32) - (l0 + l1) = (0 : Int32)
  grind
theorem own_law_2_3 (l0 l1 l2 l3 l4 l5 : Int32) : own_R l0 l1 l2 l3 l4 l5 3 - own_R l0 l1 l2 l3 l4 l5 2 = own_moves l0 l1 l2 l3 l4 l5 2 3 := by
  show (((l0 + l1) + l2) : Int32) - (l0 + l1) = (0 : Int32) + l2
  grind
theorem own_law_2_4 (l0 l1 l2 l3 l4 l5 : Int32) : own_R l0 l1 l2 l3 l4 l5 4 - own_R l0 l1 l2 l3 l4 l5 2 = own_moves l0 l1 l2 l3 l4 l5 2 4 := by
  show ((((l0 + l1) + l2) + l3) : Int32) - (l0 + l1) = (0 : Int32) + l2 + l3
  grind
theorem own_law_2_5 (l0 l1 l2 l3 l4 l5 : Int32) : own_R l0 l1 l2 l3 l4 l5 5 - own_R l0 l1 l2 l3 l4 l5 2 = own_moves l0 l1 l2 l3 l4 l5 2 5 := by
  show (((((l0 + l1) + l2) + l3) + l4) : Int32) - (l0 + l1) = (0 : Int32) + l2 + l3 + l4
  grind
theorem own_law_2_6 (l0 l1 l2 l3 l4 l5 : Int32) : own_R l0 l1 l2 l3 l4 l5 6 - own_R l0 l1 l2 l3 l4 l5 2 = own_moves l0 l1 l2 l3 l4 l5 2 6 := by
  show ((((((l0 + l1) + l2) + l3) + l4) + l5) : Int32) - (l0 + l1) = (0 : Int32) + l2 + l3 + l4 + l5
  grind
theorem own_law_3_3 (l0 l1 l2 l3 l4 l5 : Int32) : own_R l0 l1 l2 l3 l4 l5 3 - own_R l0 l1 l2 l3 l4 l5 3 = own_moves l0 l1 l2 l3 l4 l5 3 3 := by
  show (((l0 + l1) + l2) : Int32) - ((l0 + l1) + l2) = (0 : Int32)
  grind
theorem own_law_3_4 (l0 l1 l2 l3 l4 l5 : Int32) : own_R l0 l1 l2 l3 l4 l5 4 - own_R l0 l1 l2 l3 l4 l5 3 = own_moves l0 l1 l2 l3 l4 l5 3 4 := by
  show ((((l0 + l1) + l2) + l3) : Int32) - ((l0 + l1) + l2) = (0 : Int32) + l3
  grind
theorem own_law_3_5 (l0 l1 l2 l3 l4 l5 : Int32) : own_R l0 l1 l2 l3 l4 l5 5 - own_R l0 l1 l2 l3 l4 l5 3 = own_moves l0 l1 l2 l3 l4 l5 3 5 := by
  show (((((l0 + l1) + l2) + l3) + l4) : Int32) - ((l0 + l1) + l2) = (0 : Int32) + l3 + l4
  grind
theorem own_law_3_6 (l0 l1 l2 l3 l4 l5 : Int32) : own_R l0 l1 l2 l3 l4 l5 6 - own_R l0 l1 l2 l3 l4 l5 3 = own_moves l0 l1 l2 l3 l4 l5 3 6 := by
  show ((((((l0 + l1) + l2) + l3) + l4) + l5) : Int32) - ((l0 + l1) + l2) = (0 : Int32) + l3 + l4 + l5
  grind
theorem own_law_4_4 (l0 l1 l2 l3 l4 l5 : Int32) : own_R l0 l1 l2 l3 l4 l5 4 - own_R l0 l1 l2 l3 l4 l5 4 = own_moves l0 l1 l2 l3 l4 l5 4 4 := by
  show ((((l0 + l1) + l2) + l3) : Int32) - (((l0 + l1) + l2) + l3) = (0 : Int32)
  grind
theorem own_law_4_5 (l0 l1 l2 l3 l4 l5 : Int32) : own_R l0 l1 l2 l3 l4 l5 5 - own_R l0 l1 l2 l3 l4 l5 4 = own_moves l0 l1 l2 l3 l4 l5 4 5 := by
  show (((((l0 + l1) + l2) + l3) + l4) : Int32) - (((l0 + l1) + l2) + l3) = (0 : Int32) + l4
  grind
theorem own_law_4_6 (l0 l1 l2 l3 l4 l5 : Int32) : own_R l0 l1 l2 l3 l4 l5 6 - own_R l0 l1 l2 l3 l4 l5 4 = own_moves l0 l1 l2 l3 l4 l5 4 6 := by
  show ((((((l0 + l1) + l2) + l3) + l4) + l5) : Int32) - (((l0 + l1) + l2) + l3) = (0 : Int32) + l4 + l5
  grind
theorem own_law_5_5 (l0 l1 l2 l3 l4 l5 : Int32) : own_R l0 l1 l2 l3 l4 l5 5 - own_R l0 l1 l2 l3 l4 l5 5 = own_moves l0 l1 l2 l3 l4 l5 5 5 := by
  show (((((l0 + l1) + l2) + l3) + l4) : Int32) - ((((l0 + l1) + l2) + l3) + l4) = (0 : Int32)
  grind
theorem own_law_5_6 (l0 l1 l2 l3 l4 l5 : Int32) : own_R l0 l1 l2 l3 l4 l5 6 - own_R l0 l1 l2 l3 l4 l5 5 = own_moves l0 l1 l2 l3 l4 l5 5 6 := by
  show ((((((l0 + l1) + l2) + l3) + l4) + l5) : Int32) - ((((l0 + l1) + l2) + l3) + l4) = (0 : Int32) + l5
  grind
theorem own_law_6_6 (l0 l1 l2 l3 l4 l5 : Int32) : own_R l0 l1 l2 l3 l4 l5 6 - own_R l0 l1 l2 l3 l4 l5 6 = own_moves l0 l1 l2 l3 l4 l5 6 6 := by
  show ((((((l0 + l1) + l2) + l3) + l4) + l5) : Int32) - (((((l0 + l1) + l2) + l3) + l4) + l5) = (0 : Int32)
  grind
theorem own_law (l0 l1 l2 l3 l4 l5 f t : Int32) (hf : own_B7 f) (ht : own_B7 t) (h : ¬ t < f) : own_R l0 l1 l2 l3 l4 l5 t - own_R l0 l1 l2 l3 l4 l5 f = own_moves l0 l1 l2 l3 l4 l5 f t := by
  obtain ⟨-, hf⟩ := hf
  obtain ⟨-, ht⟩ := ht
  rcases hf with rfl | rfl | rfl | rfl | rfl | rfl | rfl <;> rcases ht with rfl | rfl | rfl | rfl | rfl | rfl | rfl
  · exact own_law_0_0 l0 l1 l2 l3 l4 l5
  · exact own_law_0_1 l0 l1 l2 l3 l4 l5
  · exact own_law_0_2 l0 l1 l2 l3 l4 l5
  · exact own_law_0_3 l0 l1 l2 l3 l4 l5
  · exact own_law_0_4 l0 l1 l2 l3 l4 l5
  · exact own_law_0_5 l0 l1 l2 l3 l4 l5
  · exact own_law_0_6 l0 l1 l2 l3 l4 l5
  · exact absurd (by decide) h
  · exact own_law_1_1 l0 l1 l2 l3 l4 l5
  · exact own_law_1_2 l0 l1 l2 l3 l4 l5
  · exact own_law_1_3 l0 l1 l2 l3 l4 l5
  · exact own_law_1_4 l0 l1 l2 l3 l4 l5
  · exact own_law_1_5 l0 l1 l2 l3 l4 l5
  · exact own_law_1_6 l0 l1 l2 l3 l4 l5
  · exact absurd (by decide) h
  · exact absurd (by decide) h
  · exact own_law_2_2 l0 l1 l2 l3 l4 l5
  · exact own_law_2_3 l0 l1 l2 l3 l4 l5
  · exact own_law_2_4 l0 l1 l2 l3 l4 l5
  · exact own_law_2_5 l0 l1 l2 l3 l4 l5
  · exact own_law_2_6 l0 l1 l2 l3 l4 l5
  · exact absurd (by decide) h
  · exact absurd (by decide) h
  · exact absurd (by decide) h
  · exact own_law_3_3 l0 l1 l2 l3 l4 l5
  · exact own_law_3_4 l0 l1 l2 l3 l4 l5
  · exact own_law_3_5 l0 l1 l2 l3 l4 l5
  · exact own_law_3_6 l0 l1 l2 l3 l4 l5
  · exact absurd (by decide) h
  · exact absurd (by decide) h
  · exact absurd (by decide) h
  · exact absurd (by decide) h
  · exact own_law_4_4 l0 l1 l2 l3 l4 l5
  · exact own_law_4_5 l0 l1 l2 l3 l4 l5
  · exact own_law_4_6 l0 l1 l2 l3 l4 l5
  · exact absurd (by decide) h
  · exact absurd (by decide) h
  · exact absurd (by decide) h
  · exact absurd (by decide) h
  · exact absurd (by decide) h
  · exact own_law_5_5 l0 l1 l2 l3 l4 l5
  · exact own_law_5_6 l0 l1 l2 l3 l4 l5
  · exact absurd (by decide) h
  · exact absurd (by decide) h
  · exact absurd (by decide) h
  · exact absurd (by decide) h
  · exact absurd (by decide) h
  · exact absurd (by decide) h
  · exact own_law_6_6 l0 l1 l2 l3 l4 l5
abbrev own_y0 : MethodName := ⟨"java/lang/Math", "min", "(II)I"⟩
abbrev own_y1 : MethodName := ⟨"java/lang/Math", "max", "(II)I"⟩
abbrev own_y2 : MethodName := ⟨"com/example/accrue/accrue/exact/GraphStateRowsPinLaw", "moves", "([III)I"⟩
abbrev own_y3 : MethodName := ⟨"com/example/accrue/accrue/exact/Graph", "stateRows", "([I[I)[I"⟩
theorem d1_0 : decode jdk_29_method_69_code 0 = .ok (.iload_n 0, 1) := by decide +kernel
theorem d1_1 : decode jdk_29_method_69_code 1 = .ok (.iload_n 1, 1) := by decide +kernel
theorem d1_2 : decode jdk_29_method_69_code 2 = .ok (.if_icmp .gt 7, 3) := by decide +kernel
theorem d1_5 : decode jdk_29_method_69_code 5 = .ok (.iload_n 0, 1) := by decide +kernel
theorem d1_6 : decode jdk_29_method_69_code 6 = .ok (.goto 4, 3) := by decide +kernel
theorem d1_9 : decode jdk_29_method_69_code 9 = .ok (.iload_n 1, 1) := by decide +kernel
theorem d1_10 : decode jdk_29_method_69_code 10 = .ok (.ireturn, 1) := by decide +kernel
theorem own_pf_mi : plainFor own_y0 = true := by first | exact plainFor_of_name (show plainName "java/lang/Math" = true by first | (simp [plainName, overriddenIn]; done) | decide +kernel) | decide +kernel
theorem own_ef_mi (m : MethodId) (y0 : Int32) (y1 : Int32) : entryFrame m #[(.int y0), (.int y1)] 2 = mkF m 0 #[iv y0, iv y1] [] := by first | (simp [entryFrame, mkF, argsToLocals, Value.category]; done) | rfl
def own_Qmi (Z : State) (x : Int32) (y : Int32) (h0 : Heap) (n0 : Nat) (v : Option Value) (h : Heap) (L : List Loc) : Prop := v = some (.int (if y < x then y else x)) ∧ Fr n0 L ∧ h = h0
set_option maxRecDepth 65536 in
set_option maxHeartbeats 40000000 in
theorem own_rmmi (l : Launch) (Z : State) (a0 : Array Value) (hw : ∀ d ∈ tables_1, d.before a0 Z = true) (ws : List Jvm.Cond) (x : Int32) (y : Int32) (h0 : Heap) (n0 : Nat) (Z0 : n0 ≤ h0.size)  :
    MetFree l own_y0 (head1 (Jvm.Cond.code own_y0 jdk_29_method_69_code 2 (some .int) :: ws) ({ frames := 0, cells := 0, slots := 0, locals := 0 } : Room)) (fun az Uz => az = #[(.int x), (.int y)] ∧ Z.Warmed39 Uz.vm ∧ Uz.heap = h0) (fun _ _ _ _ _ => True) (fun _ U o U' => ∃ v L, o = .returned v ∧ own_Qmi Z x y h0 n0 v U'.heap L ∧ FrameEnd U o U' L ({ frames := 0, cells := 0, slots := 0, locals := 0 } : Room).cells ({ frames := 0, cells := 0, slots := 0, locals := 0 } : Room).slots) := by
  refine MetFree.of_bodySF own_pf_mi hisR ?_
  intro p e s m args below meth c s₁ Bd hml0 hP hK
  obtain ⟨rfl, hZ, hh⟩ := hP
  have hx := Bd.exec
  have hby := Bd.bytes
  have hml : c.maxLocals = 2 := hml0
  have hown : s.vm.findClass "java/lang/Math" = some m.cls := findClass_of_methodNamed Bd.named
  have hnm := (name_of_methodNamed Bd.named Bd.method).1
  have hlk : meth.locks = false := BodyLoose.notSynchronized Bd
  have hret := Bd.returns
  have X0 : Stand p l e ({ frames := 0, cells := 0, slots := 0, locals := 0 } : Room) s m #[(.int x), (.int y)] below meth c s₁ [] 0 0 := Stand.of_body Bd
  have e0 : s₁.heap = h0 := by rw [← hh, Bd.state]; rfl
  have N0 := Fr.nil n0
  show own_E p e below (own_K s (own_Qmi Z x y h0 n0) ({ frames := 0, cells := 0, slots := 0, locals := 0 } : Room).cells ({ frames := 0, cells := 0, slots := 0, locals := 0 } : Room).slots) s₁ (entryFrame m #[(.int x), (.int y)] 2)
  refine own_S (mkF m 0 #[iv x, iv y] []) (fun _ k => castTop (own_ef_mi m (x) (y)) k) ?_
  refine own_S (mkF m 1 #[iv x, iv y] [(.int x)]) (fun _ k => XS.iloadN X0.here hx rfl (hb hby d1_0) rfl k) ?_
  refine own_S (mkF m 2 #[iv x, iv y] [(.int y), (.int x)]) (fun _ k => XS.iloadN X0.here hx rfl (hb hby d1_1) rfl k) ?_
  by_cases h1 : y < x
  · -- y < x
    refine own_S (mkF m 9 #[iv x, iv y] []) (fun _ k => XS.icmpYes X0.here hx rfl (pc0 := 2) (pc' := 9) rfl (hb hby d1_2) rfl (tlt h1).2.2.1 (by decide) (by decide) k) ?_
    refine own_S (mkF m 10 #[iv x, iv y] [(.int y)]) (fun _ k => XS.iloadN X0.here hx rfl (hb hby d1_9) rfl k) ?_
    exact own_ret X0 hx hlk (t := .int) hret rfl (Or.inl ⟨rfl, Or.inl rfl, _, rfl⟩) (hb hby d1_10) (by rw [e0]; exact ⟨(by rw [if_pos h1]), N0, rfl⟩) (by decide) (by decide)
  · -- not y < x
    refine own_S (mkF m 5 #[iv x, iv y] []) (fun _ k => XS.icmpNo X0.here hx rfl (hb hby d1_2) rfl (flt h1).2.2.1 k) ?_
    refine own_S (mkF m 6 #[iv x, iv y] [(.int x)]) (fun _ k => XS.iloadN X0.here hx rfl (hb hby d1_5) rfl k) ?_
    refine own_S (mkF m 10 #[iv x, iv y] [(.int x)]) (fun _ k => XS.goto X0.here hx rfl (pc0 := 6) (pc' := 10) rfl (hb hby d1_6) (by decide) (by decide) k) ?_
    exact own_ret X0 hx hlk (t := .int) hret rfl (Or.inl ⟨rfl, Or.inl rfl, _, rfl⟩) (hb hby d1_10) (by rw [e0]; exact ⟨(by rw [if_neg h1]), N0, rfl⟩) (by decide) (by decide)
theorem d2_0 : decode jdk_29_method_65_code 0 = .ok (.iload_n 0, 1) := by decide +kernel
theorem d2_1 : decode jdk_29_method_65_code 1 = .ok (.iload_n 1, 1) := by decide +kernel
theorem d2_2 : decode jdk_29_method_65_code 2 = .ok (.if_icmp .lt 7, 3) := by decide +kernel
theorem d2_5 : decode jdk_29_method_65_code 5 = .ok (.iload_n 0, 1) := by decide +kernel
theorem d2_6 : decode jdk_29_method_65_code 6 = .ok (.goto 4, 3) := by decide +kernel
theorem d2_9 : decode jdk_29_method_65_code 9 = .ok (.iload_n 1, 1) := by decide +kernel
theorem d2_10 : decode jdk_29_method_65_code 10 = .ok (.ireturn, 1) := by decide +kernel
theorem own_pf_ma : plainFor own_y1 = true := by first | exact plainFor_of_name (show plainName "java/lang/Math" = true by first | (simp [plainName, overriddenIn]; done) | decide +kernel) | decide +kernel
theorem own_ef_ma (m : MethodId) (y0 : Int32) (y1 : Int32) : entryFrame m #[(.int y0), (.int y1)] 2 = mkF m 0 #[iv y0, iv y1] [] := by first | (simp [entryFrame, mkF, argsToLocals, Value.category]; done) | rfl
def own_Qma (Z : State) (x : Int32) (y : Int32) (h0 : Heap) (n0 : Nat) (v : Option Value) (h : Heap) (L : List Loc) : Prop := v = some (.int (if x < y then y else x)) ∧ Fr n0 L ∧ h = h0
set_option maxRecDepth 65536 in
set_option maxHeartbeats 40000000 in
theorem own_rmma (l : Launch) (Z : State) (a0 : Array Value) (hw : ∀ d ∈ tables_1, d.before a0 Z = true) (ws : List Jvm.Cond) (x : Int32) (y : Int32) (h0 : Heap) (n0 : Nat) (Z0 : n0 ≤ h0.size)  :
    MetFree l own_y1 (head1 (Jvm.Cond.code own_y1 jdk_29_method_65_code 2 (some .int) :: ws) ({ frames := 0, cells := 0, slots := 0, locals := 0 } : Room)) (fun az Uz => az = #[(.int x), (.int y)] ∧ Z.Warmed39 Uz.vm ∧ Uz.heap = h0) (fun _ _ _ _ _ => True) (fun _ U o U' => ∃ v L, o = .returned v ∧ own_Qma Z x y h0 n0 v U'.heap L ∧ FrameEnd U o U' L ({ frames := 0, cells := 0, slots := 0, locals := 0 } : Room).cells ({ frames := 0, cells := 0, slots := 0, locals := 0 } : Room).slots) := by
  refine MetFree.of_bodySF own_pf_ma hisR ?_
  intro p e s m args below meth c s₁ Bd hml0 hP hK
  obtain ⟨rfl, hZ, hh⟩ := hP
  have hx := Bd.exec
  have hby := Bd.bytes
  have hml : c.maxLocals = 2 := hml0
  have hown : s.vm.findClass "java/lang/Math" = some m.cls := findClass_of_methodNamed Bd.named
  have hnm := (name_of_methodNamed Bd.named Bd.method).1
  have hlk : meth.locks = false := BodyLoose.notSynchronized Bd
  have hret := Bd.returns
  have X0 : Stand p l e ({ frames := 0, cells := 0, slots := 0, locals := 0 } : Room) s m #[(.int x), (.int y)] below meth c s₁ [] 0 0 := Stand.of_body Bd
  have e0 : s₁.heap = h0 := by rw [← hh, Bd.state]; rfl
  have N0 := Fr.nil n0
  show own_E p e below (own_K s (own_Qma Z x y h0 n0) ({ frames := 0, cells := 0, slots := 0, locals := 0 } : Room).cells ({ frames := 0, cells := 0, slots := 0, locals := 0 } : Room).slots) s₁ (entryFrame m #[(.int x), (.int y)] 2)
  refine own_S (mkF m 0 #[iv x, iv y] []) (fun _ k => castTop (own_ef_ma m (x) (y)) k) ?_
  refine own_S (mkF m 1 #[iv x, iv y] [(.int x)]) (fun _ k => XS.iloadN X0.here hx rfl (hb hby d2_0) rfl k) ?_
  refine own_S (mkF m 2 #[iv x, iv y] [(.int y), (.int x)]) (fun _ k => XS.iloadN X0.here hx rfl (hb hby d2_1) rfl k) ?_
  by_cases h1 : x < y
  · -- x < y
    refine own_S (mkF m 9 #[iv x, iv y] []) (fun _ k => XS.icmpYes X0.here hx rfl (pc0 := 2) (pc' := 9) rfl (hb hby d2_2) rfl (tlt h1).1 (by decide) (by decide) k) ?_
    refine own_S (mkF m 10 #[iv x, iv y] [(.int y)]) (fun _ k => XS.iloadN X0.here hx rfl (hb hby d2_9) rfl k) ?_
    exact own_ret X0 hx hlk (t := .int) hret rfl (Or.inl ⟨rfl, Or.inl rfl, _, rfl⟩) (hb hby d2_10) (by rw [e0]; exact ⟨(by rw [if_pos h1]), N0, rfl⟩) (by decide) (by decide)
  · -- not x < y
    refine own_S (mkF m 5 #[iv x, iv y] []) (fun _ k => XS.icmpNo X0.here hx rfl (hb hby d2_2) rfl (flt h1).1 k) ?_
    refine own_S (mkF m 6 #[iv x, iv y] [(.int x)]) (fun _ k => XS.iloadN X0.here hx rfl (hb hby d2_5) rfl k) ?_
    refine own_S (mkF m 10 #[iv x, iv y] [(.int x)]) (fun _ k => XS.goto X0.here hx rfl (pc0 := 6) (pc' := 10) rfl (hb hby d2_6) (by decide) (by decide) k) ?_
    exact own_ret X0 hx hlk (t := .int) hret rfl (Or.inl ⟨rfl, Or.inl rfl, _, rfl⟩) (hb hby d2_10) (by rw [e0]; exact ⟨(by rw [if_neg h1]), N0, rfl⟩) (by decide) (by decide)
theorem d4_0 : decode method_3_code 0 = .ok (.iconst 0, 1) := by decide +kernel
theorem d4_1 : decode method_3_code 1 = .ok (.istore_n 3, 1) := by decide +kernel
theorem d4_2 : decode method_3_code 2 = .ok (.iconst 0, 1) := by decide +kernel
theorem d4_3 : decode method_3_code 3 = .ok (.iload_n 1, 1) := by decide +kernel
theorem d4_4 : decode method_3_code 4 = .ok (.if_icmp .lt 14, 3) := by decide +kernel
theorem d4_7 : decode method_3_code 7 = .ok (.iconst 0, 1) := by decide +kernel
theorem d4_8 : decode method_3_code 8 = .ok (.iload_n 2, 1) := by decide +kernel
theorem d4_9 : decode method_3_code 9 = .ok (.if_icmp .ge 9, 3) := by decide +kernel
theorem d4_12 : decode method_3_code 12 = .ok (.iload_n 3, 1) := by decide +kernel
theorem d4_13 : decode method_3_code 13 = .ok (.aload_n 0, 1) := by decide +kernel
theorem d4_14 : decode method_3_code 14 = .ok (.iconst 0, 1) := by decide +kernel
theorem d4_15 : decode method_3_code 15 = .ok (.iaload, 1) := by decide +kernel
theorem d4_16 : decode method_3_code 16 = .ok (.iadd, 1) := by decide +kernel
theorem d4_17 : decode method_3_code 17 = .ok (.istore_n 3, 1) := by decide +kernel
theorem d4_18 : decode method_3_code 18 = .ok (.iconst 1, 1) := by decide +kernel
theorem d4_19 : decode method_3_code 19 = .ok (.iload_n 1, 1) := by decide +kernel
theorem d4_20 : decode method_3_code 20 = .ok (.if_icmp .lt 14, 3) := by decide +kernel
theorem d4_23 : decode method_3_code 23 = .ok (.iconst 1, 1) := by decide +kernel
theorem d4_24 : decode method_3_code 24 = .ok (.iload_n 2, 1) := by decide +kernel
theorem d4_25 : decode method_3_code 25 = .ok (.if_icmp .ge 9, 3) := by decide +kernel
theorem d4_28 : decode method_3_code 28 = .ok (.iload_n 3, 1) := by decide +kernel
theorem d4_29 : decode method_3_code 29 = .ok (.aload_n 0, 1) := by decide +kernel
theorem d4_30 : decode method_3_code 30 = .ok (.iconst 1, 1) := by decide +kernel
theorem d4_31 : decode method_3_code 31 = .ok (.iaload, 1) := by decide +kernel
theorem d4_32 : decode method_3_code 32 = .ok (.iadd, 1) := by decide +kernel
theorem d4_33 : decode method_3_code 33 = .ok (.istore_n 3, 1) := by decide +kernel
theorem d4_34 : decode method_3_code 34 = .ok (.iconst 2, 1) := by decide +kernel
theorem d4_35 : decode method_3_code 35 = .ok (.iload_n 1, 1) := by decide +kernel
theorem d4_36 : decode method_3_code 36 = .ok (.if_icmp .lt 14, 3) := by decide +kernel
theorem d4_39 : decode method_3_code 39 = .ok (.iconst 2, 1) := by decide +kernel
theorem d4_40 : decode method_3_code 40 = .ok (.iload_n 2, 1) := by decide +kernel
theorem d4_41 : decode method_3_code 41 = .ok (.if_icmp .ge 9, 3) := by decide +kernel
theorem d4_44 : decode method_3_code 44 = .ok (.iload_n 3, 1) := by decide +kernel
theorem d4_45 : decode method_3_code 45 = .ok (.aload_n 0, 1) := by decide +kernel
theorem d4_46 : decode method_3_code 46 = .ok (.iconst 2, 1) := by decide +kernel
theorem d4_47 : decode method_3_code 47 = .ok (.iaload, 1) := by decide +kernel
theorem d4_48 : decode method_3_code 48 = .ok (.iadd, 1) := by decide +kernel
theorem d4_49 : decode method_3_code 49 = .ok (.istore_n 3, 1) := by decide +kernel
theorem d4_50 : decode method_3_code 50 = .ok (.iconst 3, 1) := by decide +kernel
theorem d4_51 : decode method_3_code 51 = .ok (.iload_n 1, 1) := by decide +kernel
theorem d4_52 : decode method_3_code 52 = .ok (.if_icmp .lt 14, 3) := by decide +kernel
theorem d4_55 : decode method_3_code 55 = .ok (.iconst 3, 1) := by decide +kernel
theorem d4_56 : decode method_3_code 56 = .ok (.iload_n 2, 1) := by decide +kernel
theorem d4_57 : decode method_3_code 57 = .ok (.if_icmp .ge 9, 3) := by decide +kernel
theorem d4_60 : decode method_3_code 60 = .ok (.iload_n 3, 1) := by decide +kernel
theorem d4_61 : decode method_3_code 61 = .ok (.aload_n 0, 1) := by decide +kernel
theorem d4_62 : decode method_3_code 62 = .ok (.iconst 3, 1) := by decide +kernel
theorem d4_63 : decode method_3_code 63 = .ok (.iaload, 1) := by decide +kernel
theorem d4_64 : decode method_3_code 64 = .ok (.iadd, 1) := by decide +kernel
theorem d4_65 : decode method_3_code 65 = .ok (.istore_n 3, 1) := by decide +kernel
theorem d4_66 : decode method_3_code 66 = .ok (.iconst 4, 1) := by decide +kernel
theorem d4_67 : decode method_3_code 67 = .ok (.iload_n 1, 1) := by decide +kernel
theorem d4_68 : decode method_3_code 68 = .ok (.if_icmp .lt 14, 3) := by decide +kernel
theorem d4_71 : decode method_3_code 71 = .ok (.iconst 4, 1) := by decide +kernel
theorem d4_72 : decode method_3_code 72 = .ok (.iload_n 2, 1) := by decide +kernel
theorem d4_73 : decode method_3_code 73 = .ok (.if_icmp .ge 9, 3) := by decide +kernel
theorem d4_76 : decode method_3_code 76 = .ok (.iload_n 3, 1) := by decide +kernel
theorem d4_77 : decode method_3_code 77 = .ok (.aload_n 0, 1) := by decide +kernel
theorem d4_78 : decode method_3_code 78 = .ok (.iconst 4, 1) := by decide +kernel
theorem d4_79 : decode method_3_code 79 = .ok (.iaload, 1) := by decide +kernel
theorem d4_80 : decode method_3_code 80 = .ok (.iadd, 1) := by decide +kernel
theorem d4_81 : decode method_3_code 81 = .ok (.istore_n 3, 1) := by decide +kernel
theorem d4_82 : decode method_3_code 82 = .ok (.iconst 5, 1) := by decide +kernel
theorem d4_83 : decode method_3_code 83 = .ok (.iload_n 1, 1) := by decide +kernel
theorem d4_84 : decode method_3_code 84 = .ok (.if_icmp .lt 14, 3) := by decide +kernel
theorem d4_87 : decode method_3_code 87 = .ok (.iconst 5, 1) := by decide +kernel
theorem d4_88 : decode method_3_code 88 = .ok (.iload_n 2, 1) := by decide +kernel
theorem d4_89 : decode method_3_code 89 = .ok (.if_icmp .ge 9, 3) := by decide +kernel
theorem d4_92 : decode method_3_code 92 = .ok (.iload_n 3, 1) := by decide +kernel
theorem d4_93 : decode method_3_code 93 = .ok (.aload_n 0, 1) := by decide +kernel
theorem d4_94 : decode method_3_code 94 = .ok (.iconst 5, 1) := by decide +kernel
theorem d4_95 : decode method_3_code 95 = .ok (.iaload, 1) := by decide +kernel
theorem d4_96 : decode method_3_code 96 = .ok (.iadd, 1) := by decide +kernel
theorem d4_97 : decode method_3_code 97 = .ok (.istore_n 3, 1) := by decide +kernel
theorem d4_98 : decode method_3_code 98 = .ok (.iload_n 3, 1) := by decide +kernel
theorem d4_99 : decode method_3_code 99 = .ok (.ireturn, 1) := by decide +kernel
theorem own_pf_mv : plainFor own_y2 = true := by first | exact plainFor_of_name (show plainName "com/example/accrue/accrue/exact/GraphStateRowsPinLaw" = true by first | (simp [plainName, overriddenIn]; done) | decide +kernel) | decide +kernel
theorem own_ef_mv (m : MethodId) (y0 : Addr) (y1 : Int32) (y2 : Int32) : entryFrame m #[(.ref y0), (.int y1), (.int y2)] 4 = mkF m 0 #[rv y0, iv y1, iv y2, .unset] [] := by first | (simp [entryFrame, mkF, argsToLocals, Value.category]; done) | rfl
def own_Qmv (Z : State) (la : Addr) (kl : ClassId) (l0 : Int32) (l1 : Int32) (l2 : Int32) (l3 : Int32) (l4 : Int32) (l5 : Int32) (fr : Int32) (tt : Int32) (h0 : Heap) (n0 : Nat) (v : Option Value) (h : Heap) (L : List Loc) : Prop := v = some (.int (own_moves l0 l1 l2 l3 l4 l5 fr tt)) ∧ Fr n0 L ∧ h = h0
set_option maxRecDepth 65536 in
set_option maxHeartbeats 40000000 in
theorem own_rmmv (l : Launch) (Z : State) (a0 : Array Value) (hw : ∀ d ∈ tables_1, d.before a0 Z = true) (ws : List Jvm.Cond) (la : Addr) (kl : ClassId) (l0 : Int32) (l1 : Int32) (l2 : Int32) (l3 : Int32) (l4 : Int32) (l5 : Int32) (fr : Int32) (tt : Int32) (h0 : Heap) (n0 : Nat) (Z0 : n0 ≤ h0.size) (P0 : own_Ar Z h0 la kl .int [(.int l0), (.int l1), (.int l2), (.int l3), (.int l4), (.int l5)]) :
    MetFree l own_y2 (head1 (Jvm.Cond.code own_y2 method_3_code 4 (some .int) :: ws) ({ frames := 0, cells := 0, slots := 0, locals := 0 } : Room)) (fun az Uz => az = #[(.ref la), (.int fr), (.int tt)] ∧ Z.Warmed39 Uz.vm ∧ Uz.heap = h0) (fun _ _ _ _ _ => True) (fun _ U o U' => ∃ v L, o = .returned v ∧ own_Qmv Z la kl l0 l1 l2 l3 l4 l5 fr tt h0 n0 v U'.heap L ∧ FrameEnd U o U' L ({ frames := 0, cells := 0, slots := 0, locals := 0 } : Room).cells ({ frames := 0, cells := 0, slots := 0, locals := 0 } : Room).slots) := by
  refine MetFree.of_bodySF own_pf_mv hisR ?_
  intro p e s m args below meth c s₁ Bd hml0 hP hK
  obtain ⟨rfl, hZ, hh⟩ := hP
  have hx := Bd.exec
  have hby := Bd.bytes
  have hml : c.maxLocals = 4 := hml0
  have hown : s.vm.findClass "com/example/accrue/accrue/exact/GraphStateRowsPinLaw" = some m.cls := findClass_of_methodNamed Bd.named
  have hnm := (name_of_methodNamed Bd.named Bd.method).1
  have hlk : meth.locks = false := BodyLoose.notSynchronized Bd
  have hret := Bd.returns
  have X0 : Stand p l e ({ frames := 0, cells := 0, slots := 0, locals := 0 } : Room) s m #[(.ref la), (.int fr), (.int tt)] below meth c s₁ [] 0 0 := Stand.of_body Bd
  have e0 : s₁.heap = h0 := by rw [← hh, Bd.state]; rfl
  have N0 := Fr.nil n0
  show own_E p e below (own_K s (own_Qmv Z la kl l0 l1 l2 l3 l4 l5 fr tt h0 n0) ({ frames := 0, cells := 0, slots := 0, locals := 0 } : Room).cells ({ frames := 0, cells := 0, slots := 0, locals := 0 } : Room).slots) s₁ (entryFrame m #[(.ref la), (.int fr), (.int tt)] 4)
  refine own_S (mkF m 0 #[rv la, iv fr, iv tt, .unset] []) (fun _ k => castTop (own_ef_mv m (la) (fr) (tt)) k) ?_
  refine own_S (mkF m 1 #[rv la, iv fr, iv tt, .unset] [(.int 0)]) (fun _ k => XS.iconst X0.here hx rfl (hb hby d4_0) k) ?_
  refine own_S (mkF m 2 #[rv la, iv fr, iv tt, .val (.int 0)] []) (fun _ k => XS.istoreN X0.here hx rfl (hb hby d4_1) rfl (l' := #[rv la, iv fr, iv tt, .val (.int 0)]) rfl k) ?_
  refine own_S (mkF m 3 #[rv la, iv fr, iv tt, .val (.int 0)] [(.int 0)]) (fun _ k => XS.iconst X0.here hx rfl (hb hby d4_2) k) ?_
  refine own_S (mkF m 4 #[rv la, iv fr, iv tt, .val (.int 0)] [(.int fr), (.int 0)]) (fun _ k => XS.iloadN X0.here hx rfl (hb hby d4_3) rfl k) ?_
  obtain ⟨m0, h_m0⟩ : ∃ z : Int32, z = (if (0 : Int32) < fr then (0 : Int32) else (if (0 : Int32) < tt then ((0 : Int32) + l0) else (0 : Int32))) := ⟨_, rfl⟩
  refine own_S (T' := s₁) (mkF m 18 #[rv la, iv fr, iv tt, iv m0] []) (fun _ k => ?_) ?_
  ·
    by_cases hj1 : (0 : Int32) < fr
    ·
      refine own_s (mkF m 18 #[rv la, iv fr, iv tt, .val (.int 0)] []) (fun _ k => XS.icmpYes X0.here hx rfl (pc0 := 4) (pc' := 18) rfl (hb hby d4_4) rfl (tlt hj1).1 (by decide) (by decide) k) ?_
      rw [show m0 = (0 : Int32) from by rw [h_m0, if_pos hj1]] at k
      exact k
    ·
      refine own_s (mkF m 7 #[rv la, iv fr, iv tt, .val (.int 0)] []) (fun _ k => XS.icmpNo X0.here hx rfl (hb hby d4_4) rfl (flt hj1).1 k) ?_
      refine own_s (mkF m 8 #[rv la, iv fr, iv tt, .val (.int 0)] [(.int 0)]) (fun _ k => XS.iconst X0.here hx rfl (hb hby d4_7) k) ?_
      refine own_s (mkF m 9 #[rv la, iv fr, iv tt, .val (.int 0)] [(.int tt), (.int 0)]) (fun _ k => XS.iloadN X0.here hx rfl (hb hby d4_8) rfl k) ?_
      by_cases hj2 : (0 : Int32) < tt
      ·
        refine own_s (mkF m 12 #[rv la, iv fr, iv tt, .val (.int 0)] []) (fun _ k => XS.icmpNo X0.here hx rfl (hb hby d4_9) rfl (tlt hj2).2.1 k) ?_
        refine own_s (mkF m 13 #[rv la, iv fr, iv tt, .val (.int 0)] [(.int 0)]) (fun _ k => XS.iloadN X0.here hx rfl (hb hby d4_12) rfl k) ?_
        refine own_s (mkF m 14 #[rv la, iv fr, iv tt, .val (.int 0)] [(.ref la), (.int 0)]) (fun _ k => XS.aloadN X0.here hx rfl (hb hby d4_13) rfl rfl k) ?_
        refine own_s (mkF m 15 #[rv la, iv fr, iv tt, .val (.int 0)] [(.int 0), (.ref la), (.int 0)]) (fun _ k => XS.iconst X0.here hx rfl (hb hby d4_14) k) ?_
        refine own_s (mkF m 16 #[rv la, iv fr, iv tt, .val (.int 0)] [(.int l0), (.int 0)]) (fun _ k => own_ldI X0 hx hZ e0 P0 (by decide) rfl (g := (mkF m 15 #[rv la, iv fr, iv tt, .val (.int 0)] [(.int 0), (.ref la), (.int 0)])) rfl rfl (hb hby d4_15) _ k) ?_
        refine own_s (mkF m 17 #[rv la, iv fr, iv tt, .val (.int 0)] [(.int ((0 : Int32) + l0))]) (fun _ k => XS.iadd X0.here hx rfl (hb hby d4_16) rfl k) ?_
        refine own_s (mkF m 18 #[rv la, iv fr, iv tt, iv ((0 : Int32) + l0)] []) (fun _ k => XS.istoreN X0.here hx rfl (hb hby d4_17) rfl (l' := #[rv la, iv fr, iv tt, iv ((0 : Int32) + l0)]) rfl k) ?_
        rw [show m0 = ((0 : Int32) + l0) from by rw [h_m0, if_neg hj1, if_pos hj2]] at k
        exact k
      ·
        refine own_s (mkF m 18 #[rv la, iv fr, iv tt, .val (.int 0)] []) (fun _ k => XS.icmpYes X0.here hx rfl (pc0 := 9) (pc' := 18) rfl (hb hby d4_9) rfl (flt hj2).2.1 (by decide) (by decide) k) ?_
        rw [show m0 = (0 : Int32) from by rw [h_m0, if_neg hj1, if_neg hj2]] at k
        exact k
  refine own_S (mkF m 19 #[rv la, iv fr, iv tt, iv m0] [(.int 1)]) (fun _ k => XS.iconst X0.here hx rfl (hb hby d4_18) k) ?_
  refine own_S (mkF m 20 #[rv la, iv fr, iv tt, iv m0] [(.int fr), (.int 1)]) (fun _ k => XS.iloadN X0.here hx rfl (hb hby d4_19) rfl k) ?_
  obtain ⟨m1, h_m1⟩ : ∃ z : Int32, z = (if (1 : Int32) < fr then m0 else (if (1 : Int32) < tt then (m0 + l1) else m0)) := ⟨_, rfl⟩
  refine own_S (T' := s₁) (mkF m 34 #[rv la, iv fr, iv tt, iv m1] []) (fun _ k => ?_) ?_
  ·
    by_cases hj3 : (1 : Int32) < fr
    ·
      refine own_s (mkF m 34 #[rv la, iv fr, iv tt, iv m0] []) (fun _ k => XS.icmpYes X0.here hx rfl (pc0 := 20) (pc' := 34) rfl (hb hby d4_20) rfl (tlt hj3).1 (by decide) (by decide) k) ?_
      rw [show m1 = m0 from by rw [h_m1, if_pos hj3]] at k
      exact k
    ·
      refine own_s (mkF m 23 #[rv la, iv fr, iv tt, iv m0] []) (fun _ k => XS.icmpNo X0.here hx rfl (hb hby d4_20) rfl (flt hj3).1 k) ?_
      refine own_s (mkF m 24 #[rv la, iv fr, iv tt, iv m0] [(.int 1)]) (fun _ k => XS.iconst X0.here hx rfl (hb hby d4_23) k) ?_
      refine own_s (mkF m 25 #[rv la, iv fr, iv tt, iv m0] [(.int tt), (.int 1)]) (fun _ k => XS.iloadN X0.here hx rfl (hb hby d4_24) rfl k) ?_
      by_cases hj4 : (1 : Int32) < tt
      ·
        refine own_s (mkF m 28 #[rv la, iv fr, iv tt, iv m0] []) (fun _ k => XS.icmpNo X0.here hx rfl (hb hby d4_25) rfl (tlt hj4).2.1 k) ?_
        refine own_s (mkF m 29 #[rv la, iv fr, iv tt, iv m0] [(.int m0)]) (fun _ k => XS.iloadN X0.here hx rfl (hb hby d4_28) rfl k) ?_
        refine own_s (mkF m 30 #[rv la, iv fr, iv tt, iv m0] [(.ref la), (.int m0)]) (fun _ k => XS.aloadN X0.here hx rfl (hb hby d4_29) rfl rfl k) ?_
        refine own_s (mkF m 31 #[rv la, iv fr, iv tt, iv m0] [(.int 1), (.ref la), (.int m0)]) (fun _ k => XS.iconst X0.here hx rfl (hb hby d4_30) k) ?_
        refine own_s (mkF m 32 #[rv la, iv fr, iv tt, iv m0] [(.int l1), (.int m0)]) (fun _ k => own_ldI X0 hx hZ e0 P0 (by decide) rfl (g := (mkF m 31 #[rv la, iv fr, iv tt, iv m0] [(.int 1), (.ref la), (.int m0)])) rfl rfl (hb hby d4_31) _ k) ?_
        refine own_s (mkF m 33 #[rv la, iv fr, iv tt, iv m0] [(.int (m0 + l1))]) (fun _ k => XS.iadd X0.here hx rfl (hb hby d4_32) rfl k) ?_
        refine own_s (mkF m 34 #[rv la, iv fr, iv tt, iv (m0 + l1)] []) (fun _ k => XS.istoreN X0.here hx rfl (hb hby d4_33) rfl (l' := #[rv la, iv fr, iv tt, iv (m0 + l1)]) rfl k) ?_
        rw [show m1 = (m0 + l1) from by rw [h_m1, if_neg hj3, if_pos hj4]] at k
        exact k
      ·
        refine own_s (mkF m 34 #[rv la, iv fr, iv tt, iv m0] []) (fun _ k => XS.icmpYes X0.here hx rfl (pc0 := 25) (pc' := 34) rfl (hb hby d4_25) rfl (flt hj4).2.1 (by decide) (by decide) k) ?_
        rw [show m1 = m0 from by rw [h_m1, if_neg hj3, if_neg hj4]] at k
        exact k
  refine own_S (mkF m 35 #[rv la, iv fr, iv tt, iv m1] [(.int 2)]) (fun _ k => XS.iconst X0.here hx rfl (hb hby d4_34) k) ?_
  refine own_S (mkF m 36 #[rv la, iv fr, iv tt, iv m1] [(.int fr), (.int 2)]) (fun _ k => XS.iloadN X0.here hx rfl (hb hby d4_35) rfl k) ?_
  obtain ⟨m2, h_m2⟩ : ∃ z : Int32, z = (if (2 : Int32) < fr then m1 else (if (2 : Int32) < tt then (m1 + l2) else m1)) := ⟨_, rfl⟩
  refine own_S (T' := s₁) (mkF m 50 #[rv la, iv fr, iv tt, iv m2] []) (fun _ k => ?_) ?_
  ·
    by_cases hj5 : (2 : Int32) < fr
    ·
      refine own_s (mkF m 50 #[rv la, iv fr, iv tt, iv m1] []) (fun _ k => XS.icmpYes X0.here hx rfl (pc0 := 36) (pc' := 50) rfl (hb hby d4_36) rfl (tlt hj5).1 (by decide) (by decide) k) ?_
      rw [show m2 = m1 from by rw [h_m2, if_pos hj5]] at k
      exact k
    ·
      refine own_s (mkF m 39 #[rv la, iv fr, iv tt, iv m1] []) (fun _ k => XS.icmpNo X0.here hx rfl (hb hby d4_36) rfl (flt hj5).1 k) ?_
      refine own_s (mkF m 40 #[rv la, iv fr, iv tt, iv m1] [(.int 2)]) (fun _ k => XS.iconst X0.here hx rfl (hb hby d4_39) k) ?_
      refine own_s (mkF m 41 #[rv la, iv fr, iv tt, iv m1] [(.int tt), (.int 2)]) (fun _ k => XS.iloadN X0.here hx rfl (hb hby d4_40) rfl k) ?_
      by_cases hj6 : (2 : Int32) < tt
      ·
        refine own_s (mkF m 44 #[rv la, iv fr, iv tt, iv m1] []) (fun _ k => XS.icmpNo X0.here hx rfl (hb hby d4_41) rfl (tlt hj6).2.1 k) ?_
        refine own_s (mkF m 45 #[rv la, iv fr, iv tt, iv m1] [(.int m1)]) (fun _ k => XS.iloadN X0.here hx rfl (hb hby d4_44) rfl k) ?_
        refine own_s (mkF m 46 #[rv la, iv fr, iv tt, iv m1] [(.ref la), (.int m1)]) (fun _ k => XS.aloadN X0.here hx rfl (hb hby d4_45) rfl rfl k) ?_
        refine own_s (mkF m 47 #[rv la, iv fr, iv tt, iv m1] [(.int 2), (.ref la), (.int m1)]) (fun _ k => XS.iconst X0.here hx rfl (hb hby d4_46) k) ?_
        refine own_s (mkF m 48 #[rv la, iv fr, iv tt, iv m1] [(.int l2), (.int m1)]) (fun _ k => own_ldI X0 hx hZ e0 P0 (by decide) rfl (g := (mkF m 47 #[rv la, iv fr, iv tt, iv m1] [(.int 2), (.ref la), (.int m1)])) rfl rfl (hb hby d4_47) _ k) ?_
        refine own_s (mkF m 49 #[rv la, iv fr, iv tt, iv m1] [(.int (m1 + l2))]) (fun _ k => XS.iadd X0.here hx rfl (hb hby d4_48) rfl k) ?_
        refine own_s (mkF m 50 #[rv la, iv fr, iv tt, iv (m1 + l2)] []) (fun _ k => XS.istoreN X0.here hx rfl (hb hby d4_49) rfl (l' := #[rv la, iv fr, iv tt, iv (m1 + l2)]) rfl k) ?_
        rw [show m2 = (m1 + l2) from by rw [h_m2, if_neg hj5, if_pos hj6]] at k
        exact k
      ·
        refine own_s (mkF m 50 #[rv la, iv fr, iv tt, iv m1] []) (fun _ k => XS.icmpYes X0.here hx rfl (pc0 := 41) (pc' := 50) rfl (hb hby d4_41) rfl (flt hj6).2.1 (by decide) (by decide) k) ?_
        rw [show m2 = m1 from by rw [h_m2, if_neg hj5, if_neg hj6]] at k
        exact k
  refine own_S (mkF m 51 #[rv la, iv fr, iv tt, iv m2] [(.int 3)]) (fun _ k => XS.iconst X0.here hx rfl (hb hby d4_50) k) ?_
  refine own_S (mkF m 52 #[rv la, iv fr, iv tt, iv m2] [(.int fr), (.int 3)]) (fun _ k => XS.iloadN X0.here hx rfl (hb hby d4_51) rfl k) ?_
  obtain ⟨m3, h_m3⟩ : ∃ z : Int32, z = (if (3 : Int32) < fr then m2 else (if (3 : Int32) < tt then (m2 + l3) else m2)) := ⟨_, rfl⟩
  refine own_S (T' := s₁) (mkF m 66 #[rv la, iv fr, iv tt, iv m3] []) (fun _ k => ?_) ?_
  ·
    by_cases hj7 : (3 : Int32) < fr
    ·
      refine own_s (mkF m 66 #[rv la, iv fr, iv tt, iv m2] []) (fun _ k => XS.icmpYes X0.here hx rfl (pc0 := 52) (pc' := 66) rfl (hb hby d4_52) rfl (tlt hj7).1 (by decide) (by decide) k) ?_
      rw [show m3 = m2 from by rw [h_m3, if_pos hj7]] at k
      exact k
    ·
      refine own_s (mkF m 55 #[rv la, iv fr, iv tt, iv m2] []) (fun _ k => XS.icmpNo X0.here hx rfl (hb hby d4_52) rfl (flt hj7).1 k) ?_
      refine own_s (mkF m 56 #[rv la, iv fr, iv tt, iv m2] [(.int 3)]) (fun _ k => XS.iconst X0.here hx rfl (hb hby d4_55) k) ?_
      refine own_s (mkF m 57 #[rv la, iv fr, iv tt, iv m2] [(.int tt), (.int 3)]) (fun _ k => XS.iloadN X0.here hx rfl (hb hby d4_56) rfl k) ?_
      by_cases hj8 : (3 : Int32) < tt
      ·
        refine own_s (mkF m 60 #[rv la, iv fr, iv tt, iv m2] []) (fun _ k => XS.icmpNo X0.here hx rfl (hb hby d4_57) rfl (tlt hj8).2.1 k) ?_
        refine own_s (mkF m 61 #[rv la, iv fr, iv tt, iv m2] [(.int m2)]) (fun _ k => XS.iloadN X0.here hx rfl (hb hby d4_60) rfl k) ?_
        refine own_s (mkF m 62 #[rv la, iv fr, iv tt, iv m2] [(.ref la), (.int m2)]) (fun _ k => XS.aloadN X0.here hx rfl (hb hby d4_61) rfl rfl k) ?_
        refine own_s (mkF m 63 #[rv la, iv fr, iv tt, iv m2] [(.int 3), (.ref la), (.int m2)]) (fun _ k => XS.iconst X0.here hx rfl (hb hby d4_62) k) ?_
        refine own_s (mkF m 64 #[rv la, iv fr, iv tt, iv m2] [(.int l3), (.int m2)]) (fun _ k => own_ldI X0 hx hZ e0 P0 (by decide) rfl (g := (mkF m 63 #[rv la, iv fr, iv tt, iv m2] [(.int 3), (.ref la), (.int m2)])) rfl rfl (hb hby d4_63) _ k) ?_
        refine own_s (mkF m 65 #[rv la, iv fr, iv tt, iv m2] [(.int (m2 + l3))]) (fun _ k => XS.iadd X0.here hx rfl (hb hby d4_64) rfl k) ?_
        refine own_s (mkF m 66 #[rv la, iv fr, iv tt, iv (m2 + l3)] []) (fun _ k => XS.istoreN X0.here hx rfl (hb hby d4_65) rfl (l' := #[rv la, iv fr, iv tt, iv (m2 + l3)]) rfl k) ?_
        rw [show m3 = (m2 + l3) from by rw [h_m3, if_neg hj7, if_pos hj8]] at k
        exact k
      ·
        refine own_s (mkF m 66 #[rv la, iv fr, iv tt, iv m2] []) (fun _ k => XS.icmpYes X0.here hx rfl (pc0 := 57) (pc' := 66) rfl (hb hby d4_57) rfl (flt hj8).2.1 (by decide) (by decide) k) ?_
        rw [show m3 = m2 from by rw [h_m3, if_neg hj7, if_neg hj8]] at k
        exact k
  refine own_S (mkF m 67 #[rv la, iv fr, iv tt, iv m3] [(.int 4)]) (fun _ k => XS.iconst X0.here hx rfl (hb hby d4_66) k) ?_
  refine own_S (mkF m 68 #[rv la, iv fr, iv tt, iv m3] [(.int fr), (.int 4)]) (fun _ k => XS.iloadN X0.here hx rfl (hb hby d4_67) rfl k) ?_
  obtain ⟨m4, h_m4⟩ : ∃ z : Int32, z = (if (4 : Int32) < fr then m3 else (if (4 : Int32) < tt then (m3 + l4) else m3)) := ⟨_, rfl⟩
  refine own_S (T' := s₁) (mkF m 82 #[rv la, iv fr, iv tt, iv m4] []) (fun _ k => ?_) ?_
  ·
    by_cases hj9 : (4 : Int32) < fr
    ·
      refine own_s (mkF m 82 #[rv la, iv fr, iv tt, iv m3] []) (fun _ k => XS.icmpYes X0.here hx rfl (pc0 := 68) (pc' := 82) rfl (hb hby d4_68) rfl (tlt hj9).1 (by decide) (by decide) k) ?_
      rw [show m4 = m3 from by rw [h_m4, if_pos hj9]] at k
      exact k
    ·
      refine own_s (mkF m 71 #[rv la, iv fr, iv tt, iv m3] []) (fun _ k => XS.icmpNo X0.here hx rfl (hb hby d4_68) rfl (flt hj9).1 k) ?_
      refine own_s (mkF m 72 #[rv la, iv fr, iv tt, iv m3] [(.int 4)]) (fun _ k => XS.iconst X0.here hx rfl (hb hby d4_71) k) ?_
      refine own_s (mkF m 73 #[rv la, iv fr, iv tt, iv m3] [(.int tt), (.int 4)]) (fun _ k => XS.iloadN X0.here hx rfl (hb hby d4_72) rfl k) ?_
      by_cases hj10 : (4 : Int32) < tt
      ·
        refine own_s (mkF m 76 #[rv la, iv fr, iv tt, iv m3] []) (fun _ k => XS.icmpNo X0.here hx rfl (hb hby d4_73) rfl (tlt hj10).2.1 k) ?_
        refine own_s (mkF m 77 #[rv la, iv fr, iv tt, iv m3] [(.int m3)]) (fun _ k => XS.iloadN X0.here hx rfl (hb hby d4_76) rfl k) ?_
        refine own_s (mkF m 78 #[rv la, iv fr, iv tt, iv m3] [(.ref la), (.int m3)]) (fun _ k => XS.aloadN X0.here hx rfl (hb hby d4_77) rfl rfl k) ?_
        refine own_s (mkF m 79 #[rv la, iv fr, iv tt, iv m3] [(.int 4), (.ref la), (.int m3)]) (fun _ k => XS.iconst X0.here hx rfl (hb hby d4_78) k) ?_
        refine own_s (mkF m 80 #[rv la, iv fr, iv tt, iv m3] [(.int l4), (.int m3)]) (fun _ k => own_ldI X0 hx hZ e0 P0 (by decide) rfl (g := (mkF m 79 #[rv la, iv fr, iv tt, iv m3] [(.int 4), (.ref la), (.int m3)])) rfl rfl (hb hby d4_79) _ k) ?_
        refine own_s (mkF m 81 #[rv la, iv fr, iv tt, iv m3] [(.int (m3 + l4))]) (fun _ k => XS.iadd X0.here hx rfl (hb hby d4_80) rfl k) ?_
        refine own_s (mkF m 82 #[rv la, iv fr, iv tt, iv (m3 + l4)] []) (fun _ k => XS.istoreN X0.here hx rfl (hb hby d4_81) rfl (l' := #[rv la, iv fr, iv tt, iv (m3 + l4)]) rfl k) ?_
        rw [show m4 = (m3 + l4) from by rw [h_m4, if_neg hj9, if_pos hj10]] at k
        exact k
      ·
        refine own_s (mkF m 82 #[rv la, iv fr, iv tt, iv m3] []) (fun _ k => XS.icmpYes X0.here hx rfl (pc0 := 73) (pc' := 82) rfl (hb hby d4_73) rfl (flt hj10).2.1 (by decide) (by decide) k) ?_
        rw [show m4 = m3 from by rw [h_m4, if_neg hj9, if_neg hj10]] at k
        exact k
  refine own_S (mkF m 83 #[rv la, iv fr, iv tt, iv m4] [(.int 5)]) (fun _ k => XS.iconst X0.here hx rfl (hb hby d4_82) k) ?_
  refine own_S (mkF m 84 #[rv la, iv fr, iv tt, iv m4] [(.int fr), (.int 5)]) (fun _ k => XS.iloadN X0.here hx rfl (hb hby d4_83) rfl k) ?_
  obtain ⟨m5, h_m5⟩ : ∃ z : Int32, z = (if (5 : Int32) < fr then m4 else (if (5 : Int32) < tt then (m4 + l5) else m4)) := ⟨_, rfl⟩
  refine own_S (T' := s₁) (mkF m 98 #[rv la, iv fr, iv tt, iv m5] []) (fun _ k => ?_) ?_
  ·
    by_cases hj11 : (5 : Int32) < fr
    ·
      refine own_s (mkF m 98 #[rv la, iv fr, iv tt, iv m4] []) (fun _ k => XS.icmpYes X0.here hx rfl (pc0 := 84) (pc' := 98) rfl (hb hby d4_84) rfl (tlt hj11).1 (by decide) (by decide) k) ?_
      rw [show m5 = m4 from by rw [h_m5, if_pos hj11]] at k
      exact k
    ·
      refine own_s (mkF m 87 #[rv la, iv fr, iv tt, iv m4] []) (fun _ k => XS.icmpNo X0.here hx rfl (hb hby d4_84) rfl (flt hj11).1 k) ?_
      refine own_s (mkF m 88 #[rv la, iv fr, iv tt, iv m4] [(.int 5)]) (fun _ k => XS.iconst X0.here hx rfl (hb hby d4_87) k) ?_
      refine own_s (mkF m 89 #[rv la, iv fr, iv tt, iv m4] [(.int tt), (.int 5)]) (fun _ k => XS.iloadN X0.here hx rfl (hb hby d4_88) rfl k) ?_
      by_cases hj12 : (5 : Int32) < tt
      ·
        refine own_s (mkF m 92 #[rv la, iv fr, iv tt, iv m4] []) (fun _ k => XS.icmpNo X0.here hx rfl (hb hby d4_89) rfl (tlt hj12).2.1 k) ?_
        refine own_s (mkF m 93 #[rv la, iv fr, iv tt, iv m4] [(.int m4)]) (fun _ k => XS.iloadN X0.here hx rfl (hb hby d4_92) rfl k) ?_
        refine own_s (mkF m 94 #[rv la, iv fr, iv tt, iv m4] [(.ref la), (.int m4)]) (fun _ k => XS.aloadN X0.here hx rfl (hb hby d4_93) rfl rfl k) ?_
        refine own_s (mkF m 95 #[rv la, iv fr, iv tt, iv m4] [(.int 5), (.ref la), (.int m4)]) (fun _ k => XS.iconst X0.here hx rfl (hb hby d4_94) k) ?_
        refine own_s (mkF m 96 #[rv la, iv fr, iv tt, iv m4] [(.int l5), (.int m4)]) (fun _ k => own_ldI X0 hx hZ e0 P0 (by decide) rfl (g := (mkF m 95 #[rv la, iv fr, iv tt, iv m4] [(.int 5), (.ref la), (.int m4)])) rfl rfl (hb hby d4_95) _ k) ?_
        refine own_s (mkF m 97 #[rv la, iv fr, iv tt, iv m4] [(.int (m4 + l5))]) (fun _ k => XS.iadd X0.here hx rfl (hb hby d4_96) rfl k) ?_
        refine own_s (mkF m 98 #[rv la, iv fr, iv tt, iv (m4 + l5)] []) (fun _ k => XS.istoreN X0.here hx rfl (hb hby d4_97) rfl (l' := #[rv la, iv fr, iv tt, iv (m4 + l5)]) rfl k) ?_
        rw [show m5 = (m4 + l5) from by rw [h_m5, if_neg hj11, if_pos hj12]] at k
        exact k
      ·
        refine own_s (mkF m 98 #[rv la, iv fr, iv tt, iv m4] []) (fun _ k => XS.icmpYes X0.here hx rfl (pc0 := 89) (pc' := 98) rfl (hb hby d4_89) rfl (flt hj12).2.1 (by decide) (by decide) k) ?_
        rw [show m5 = m4 from by rw [h_m5, if_neg hj11, if_neg hj12]] at k
        exact k
  refine own_S (mkF m 99 #[rv la, iv fr, iv tt, iv m5] [(.int m5)]) (fun _ k => XS.iloadN X0.here hx rfl (hb hby d4_98) rfl k) ?_
  exact own_ret X0 hx hlk (t := .int) hret rfl (Or.inl ⟨rfl, Or.inl rfl, _, rfl⟩) (hb hby d4_99) (by rw [e0]; exact ⟨(by rw [h_m5, h_m4, h_m3, h_m2, h_m1, h_m0]; rfl), N0, rfl⟩) (by decide) (by decide)
theorem d3_0 : decode prog_18_method_4_code 0 = .ok (.aload_n 0, 1) := by decide +kernel
theorem d3_1 : decode prog_18_method_4_code 1 = .ok (.arraylength, 1) := by decide +kernel
theorem d3_2 : decode prog_18_method_4_code 2 = .ok (.iconst 1, 1) := by decide +kernel
theorem d3_3 : decode prog_18_method_4_code 3 = .ok (.isub, 1) := by decide +kernel
theorem d3_4 : decode prog_18_method_4_code 4 = .ok (.istore_n 2, 1) := by decide +kernel
theorem d3_5 : decode prog_18_method_4_code 5 = .ok (.iload_n 2, 1) := by decide +kernel
theorem d3_6 : decode prog_18_method_4_code 6 = .ok (.iconst 1, 1) := by decide +kernel
theorem d3_7 : decode prog_18_method_4_code 7 = .ok (.iadd, 1) := by decide +kernel
theorem d3_8 : decode prog_18_method_4_code 8 = .ok (.newarray .int, 2) := by decide +kernel
theorem d3_10 : decode prog_18_method_4_code 10 = .ok (.astore_n 3, 1) := by decide +kernel
theorem d3_11 : decode prog_18_method_4_code 11 = .ok (.iconst 0, 1) := by decide +kernel
theorem d3_12 : decode prog_18_method_4_code 12 = .ok (.istore 4, 2) := by decide +kernel
theorem d3_14 : decode prog_18_method_4_code 14 = .ok (.iload 4, 2) := by decide +kernel
theorem d3_16 : decode prog_18_method_4_code 16 = .ok (.iload_n 2, 1) := by decide +kernel
theorem d3_17 : decode prog_18_method_4_code 17 = .ok (.if_icmp .gt 19, 3) := by decide +kernel
theorem d3_20 : decode prog_18_method_4_code 20 = .ok (.aload_n 3, 1) := by decide +kernel
theorem d3_21 : decode prog_18_method_4_code 21 = .ok (.iload 4, 2) := by decide +kernel
theorem d3_23 : decode prog_18_method_4_code 23 = .ok (.aload_n 1, 1) := by decide +kernel
theorem d3_24 : decode prog_18_method_4_code 24 = .ok (.aload_n 0, 1) := by decide +kernel
theorem d3_25 : decode prog_18_method_4_code 25 = .ok (.iload 4, 2) := by decide +kernel
theorem d3_27 : decode prog_18_method_4_code 27 = .ok (.iaload, 1) := by decide +kernel
theorem d3_28 : decode prog_18_method_4_code 28 = .ok (.iaload, 1) := by decide +kernel
theorem d3_29 : decode prog_18_method_4_code 29 = .ok (.iastore, 1) := by decide +kernel
theorem d3_30 : decode prog_18_method_4_code 30 = .ok (.iinc 4 1, 3) := by decide +kernel
theorem d3_33 : decode prog_18_method_4_code 33 = .ok (.goto (-19), 3) := by decide +kernel
theorem d3_36 : decode prog_18_method_4_code 36 = .ok (.aload_n 3, 1) := by decide +kernel
theorem d3_37 : decode prog_18_method_4_code 37 = .ok (.areturn, 1) := by decide +kernel
theorem own_pf_sr0 : plainFor own_y3 = true := by first | exact plainFor_of_name (show plainName "com/example/accrue/accrue/exact/Graph" = true by first | (simp [plainName, overriddenIn]; done) | decide +kernel) | decide +kernel
theorem own_ef_sr0 (m : MethodId) (y0 : Addr) (y1 : Addr) : entryFrame m #[(.ref y0), (.ref y1)] 5 = mkF m 0 #[rv y0, rv y1, .unset, .unset, .unset] [] := by first | (simp [entryFrame, mkF, argsToLocals, Value.category]; done) | rfl
def own_Qsr0 (Z : State) (ca : Addr) (ra : Addr) (kc : ClassId) (kr : ClassId) (h0 : Heap) (n0 : Nat) (v : Option Value) (h : Heap) (L : List Loc) : Prop := ∃ (rr : Addr) (kx : ClassId), v = some (.ref rr) ∧ Fr n0 L ∧ Keep h0 h [] ∧ own_Ar Z h rr kx .int [(.int (0 : Int32))] ∧ h0.size ≤ rr
set_option maxRecDepth 65536 in
set_option maxHeartbeats 40000000 in
theorem own_rmsr0 (l : Launch) (Z : State) (a0 : Array Value) (hw : ∀ d ∈ tables_1, d.before a0 Z = true) (ws : List Jvm.Cond) (ca : Addr) (ra : Addr) (kc : ClassId) (kr : ClassId) (h0 : Heap) (n0 : Nat) (Z0 : n0 ≤ h0.size) (P0 : own_Ar Z h0 ca kc .int [(.int (0 : Int32))]) (P1 : own_Ar Z h0 ra kr .int [(.int (0 : Int32))]) :
    MetFree l own_y3 (head1 (Jvm.Cond.code own_y3 prog_18_method_4_code 5 (some (.array .int)) :: ws) ({ frames := 0, cells := 1, slots := 1, locals := 0 } : Room)) (fun az Uz => az = #[(.ref ca), (.ref ra)] ∧ Z.Warmed39 Uz.vm ∧ Uz.heap = h0) (fun _ _ _ _ _ => True) (fun _ U o U' => ∃ v L, o = .returned v ∧ own_Qsr0 Z ca ra kc kr h0 n0 v U'.heap L ∧ FrameEnd U o U' L ({ frames := 0, cells := 1, slots := 1, locals := 0 } : Room).cells ({ frames := 0, cells := 1, slots := 1, locals := 0 } : Room).slots) := by
  refine MetFree.of_bodySF own_pf_sr0 hisR ?_
  intro p e s m args below meth c s₁ Bd hml0 hP hK
  obtain ⟨rfl, hZ, hh⟩ := hP
  have hx := Bd.exec
  have hby := Bd.bytes
  have hml : c.maxLocals = 5 := hml0
  have hown : s.vm.findClass "com/example/accrue/accrue/exact/Graph" = some m.cls := findClass_of_methodNamed Bd.named
  have hnm := (name_of_methodNamed Bd.named Bd.method).1
  have hlk : meth.locks = false := BodyLoose.notSynchronized Bd
  have hret := Bd.returns
  have X0 : Stand p l e ({ frames := 0, cells := 1, slots := 1, locals := 0 } : Room) s m #[(.ref ca), (.ref ra)] below meth c s₁ [] 0 0 := Stand.of_body Bd
  have e0 : s₁.heap = h0 := by rw [← hh, Bd.state]; rfl
  have N0 := Fr.nil n0
  show own_E p e below (own_K s (own_Qsr0 Z ca ra kc kr h0 n0) ({ frames := 0, cells := 1, slots := 1, locals := 0 } : Room).cells ({ frames := 0, cells := 1, slots := 1, locals := 0 } : Room).slots) s₁ (entryFrame m #[(.ref ca), (.ref ra)] 5)
  refine own_S (mkF m 0 #[rv ca, rv ra, .unset, .unset, .unset] []) (fun _ k => castTop (own_ef_sr0 m (ca) (ra)) k) ?_
  refine own_S (mkF m 1 #[rv ca, rv ra, .unset, .unset, .unset] [(.ref ca)]) (fun _ k => XS.aloadN X0.here hx rfl (hb hby d3_0) rfl rfl k) ?_
  refine own_S (mkF m 2 #[rv ca, rv ra, .unset, .unset, .unset] [(.int 1)]) (fun _ k => own_alen X0 hx hZ e0 P0 (g := (mkF m 1 #[rv ca, rv ra, .unset, .unset, .unset] [(.ref ca)])) rfl rfl (hb hby d3_1) _ k) ?_
  refine own_S (mkF m 3 #[rv ca, rv ra, .unset, .unset, .unset] [(.int 1), (.int 1)]) (fun _ k => XS.iconst X0.here hx rfl (hb hby d3_2) k) ?_
  refine own_S (mkF m 4 #[rv ca, rv ra, .unset, .unset, .unset] [(.int 0)]) (fun _ k => XS.isub X0.here hx rfl (hb hby d3_3) rfl k) ?_
  refine own_S (mkF m 5 #[rv ca, rv ra, .val (.int 0), .unset, .unset] []) (fun _ k => XS.istoreN X0.here hx rfl (hb hby d3_4) rfl (l' := #[rv ca, rv ra, .val (.int 0), .unset, .unset]) rfl k) ?_
  refine own_S (mkF m 6 #[rv ca, rv ra, .val (.int 0), .unset, .unset] [(.int 0)]) (fun _ k => XS.iloadN X0.here hx rfl (hb hby d3_5) rfl k) ?_
  refine own_S (mkF m 7 #[rv ca, rv ra, .val (.int 0), .unset, .unset] [(.int 1), (.int 0)]) (fun _ k => XS.iconst X0.here hx rfl (hb hby d3_6) k) ?_
  refine own_S (mkF m 8 #[rv ca, rv ra, .val (.int 0), .unset, .unset] [(.int 1)]) (fun _ k => XS.iadd X0.here hx rfl (hb hby d3_7) rfl k) ?_
  obtain ⟨T1, h1, cA1, X1, e1, E1, A1, st1⟩ := newP X0 hx hZ (own_g hw (i := 0) rfl) e0 (g := (mkF m 8 #[rv ca, rv ra, .val (.int 0), .unset, .unset] [(.int 1)])) rfl (hb hby d3_8) rfl (by decide) (cap := 1) (by decide) (by decide) (by decide) (by decide)
  obtain ⟨rr, g1⟩ : ∃ z, z = h0.size := ⟨_, rfl⟩
  rw [← g1] at A1 st1
  have n2 : ca ≠ rr := Nat.ne_of_lt (Nat.lt_of_lt_of_eq P0.lt g1.symm)
  have n3 : ra ≠ rr := Nat.ne_of_lt (Nat.lt_of_lt_of_eq P1.lt g1.symm)
  have ge_rr : n0 ≤ rr := Nat.le_trans Z0 (Nat.le_of_eq g1.symm)
  have fr_rr : h0.size ≤ rr := Nat.le_trans (Keep.refl h0 []).1 (Nat.le_of_eq g1.symm)
  have K1 : Keep h0 h1 [] := (Keep.refl _ _).ext E1
  have F4 := P0.ext E1
  have F5 := P1.ext E1
  have Z1 : n0 ≤ h1.size := Nat.le_trans Z0 E1.1
  have F6 : own_Ar Z h1 rr cA1 .int [(.int (0 : Int32))] := own_Ar.new A1 rfl
  refine own_S (mkF m 10 #[rv ca, rv ra, .val (.int 0), .unset, .unset] [(.ref rr)]) st1 ?_
  refine own_S (mkF m 11 #[rv ca, rv ra, .val (.int 0), rv rr, .unset] []) (fun _ k => XS.astoreN X1.here hx rfl (hb hby d3_10) rfl rfl (l' := #[rv ca, rv ra, .val (.int 0), rv rr, .unset]) rfl k) ?_
  refine own_S (mkF m 12 #[rv ca, rv ra, .val (.int 0), rv rr, .unset] [(.int 0)]) (fun _ k => XS.iconst X1.here hx rfl (hb hby d3_11) k) ?_
  refine own_S (mkF m 14 #[rv ca, rv ra, .val (.int 0), rv rr, .val (.int 0)] []) (fun _ k => XS.istore X1.here hx rfl (hb hby d3_12) rfl (l' := #[rv ca, rv ra, .val (.int 0), rv rr, .val (.int 0)]) rfl k) ?_
  refine own_S (mkF m 16 #[rv ca, rv ra, .val (.int 0), rv rr, .val (.int 0)] [(.int 0)]) (fun _ k => XS.iload X1.here hx rfl (hb hby d3_14) rfl k) ?_
  refine own_S (mkF m 17 #[rv ca, rv ra, .val (.int 0), rv rr, .val (.int 0)] [(.int 0), (.int 0)]) (fun _ k => XS.iloadN X1.here hx rfl (hb hby d3_16) rfl k) ?_
  have hc7 : ¬ ((0 : Int32) < (0 : Int32)) := by decide
  refine own_S (mkF m 20 #[rv ca, rv ra, .val (.int 0), rv rr, .val (.int 0)] []) (fun _ k => XS.icmpNo X1.here hx rfl (hb hby d3_17) rfl (flt hc7).2.2.1 k) ?_
  refine own_S (mkF m 21 #[rv ca, rv ra, .val (.int 0), rv rr, .val (.int 0)] [(.ref rr)]) (fun _ k => XS.aloadN X1.here hx rfl (hb hby d3_20) rfl rfl k) ?_
  refine own_S (mkF m 23 #[rv ca, rv ra, .val (.int 0), rv rr, .val (.int 0)] [(.int 0), (.ref rr)]) (fun _ k => XS.iload X1.here hx rfl (hb hby d3_21) rfl k) ?_
  refine own_S (mkF m 24 #[rv ca, rv ra, .val (.int 0), rv rr, .val (.int 0)] [(.ref ra), (.int 0), (.ref rr)]) (fun _ k => XS.aloadN X1.here hx rfl (hb hby d3_23) rfl rfl k) ?_
  refine own_S (mkF m 25 #[rv ca, rv ra, .val (.int 0), rv rr, .val (.int 0)] [(.ref ca), (.ref ra), (.int 0), (.ref rr)]) (fun _ k => XS.aloadN X1.here hx rfl (hb hby d3_24) rfl rfl k) ?_
  refine own_S (mkF m 27 #[rv ca, rv ra, .val (.int 0), rv rr, .val (.int 0)] [(.int 0), (.ref ca), (.ref ra), (.int 0), (.ref rr)]) (fun _ k => XS.iload X1.here hx rfl (hb hby d3_25) rfl k) ?_
  refine own_S (mkF m 28 #[rv ca, rv ra, .val (.int 0), rv rr, .val (.int 0)] [(.int 0), (.ref ra), (.int 0), (.ref rr)]) (fun _ k => own_ldI X1 hx hZ e1 F4 (by decide) rfl (g := (mkF m 27 #[rv ca, rv ra, .val (.int 0), rv rr, .val (.int 0)] [(.int 0), (.ref ca), (.ref ra), (.int 0), (.ref rr)])) rfl rfl (hb hby d3_27) _ k) ?_
  refine own_S (mkF m 29 #[rv ca, rv ra, .val (.int 0), rv rr, .val (.int 0)] [(.int 0), (.int 0), (.ref rr)]) (fun _ k => own_ldI X1 hx hZ e1 F5 (by decide) rfl (g := (mkF m 28 #[rv ca, rv ra, .val (.int 0), rv rr, .val (.int 0)] [(.int 0), (.ref ra), (.int 0), (.ref rr)])) rfl rfl (hb hby d3_28) _ k) ?_
  obtain ⟨T8, h8, X8, e8, W8, AR8, st8⟩ := own_stI (j := (0 : Int32)) X1 hx hZ e1 F6 (by decide) (show (0 : Nat) < 1 from by decide) (g := (mkF m 29 #[rv ca, rv ra, .val (.int 0), rv rr, .val (.int 0)] [(.int 0), (.int 0), (.ref rr)])) rfl rfl (hb hby d3_29)
  refine own_S (mkF m 30 #[rv ca, rv ra, .val (.int 0), rv rr, .val (.int 0)] []) st8 ?_
  have F9 := F4.other W8 n2
  have F10 := F5.other W8 n3
  have F11 : own_Ar Z h8 rr cA1 .int [(.int 0)] := AR8
  have N8 := Fr.snoc X8 N0 ge_rr
  have Z8 : n0 ≤ h8.size := by rw [Wr.size W8]; exact Z1
  have K8 : Keep h0 h8 [] := K1.wr W8 (Or.inr fr_rr)
  refine own_S (mkF m 33 #[rv ca, rv ra, .val (.int 0), rv rr, .val (.int 1)] []) (fun _ k => XS.iinc X8.here hx rfl (hb hby d3_30) rfl (l' := #[rv ca, rv ra, .val (.int 0), rv rr, .val (.int 1)]) rfl k) ?_
  refine own_S (mkF m 14 #[rv ca, rv ra, .val (.int 0), rv rr, .val (.int 1)] []) (fun _ k => XS.goto X8.here hx rfl (pc0 := 33) (pc' := 14) rfl (hb hby d3_33) (by decide) (by decide) k) ?_
  refine own_S (mkF m 16 #[rv ca, rv ra, .val (.int 0), rv rr, .val (.int 1)] [(.int 1)]) (fun _ k => XS.iload X8.here hx rfl (hb hby d3_14) rfl k) ?_
  refine own_S (mkF m 17 #[rv ca, rv ra, .val (.int 0), rv rr, .val (.int 1)] [(.int 0), (.int 1)]) (fun _ k => XS.iloadN X8.here hx rfl (hb hby d3_16) rfl k) ?_
  have hc12 : (0 : Int32) < (1 : Int32) := by decide
  refine own_S (mkF m 36 #[rv ca, rv ra, .val (.int 0), rv rr, .val (.int 1)] []) (fun _ k => XS.icmpYes X8.here hx rfl (pc0 := 17) (pc' := 36) rfl (hb hby d3_17) rfl (tlt hc12).2.2.1 (by decide) (by decide) k) ?_
  refine own_S (mkF m 37 #[rv ca, rv ra, .val (.int 0), rv rr, .val (.int 1)] [(.ref rr)]) (fun _ k => XS.aloadN X8.here hx rfl (hb hby d3_36) rfl rfl k) ?_
  exact own_ret X8 hx hlk (t := (.array .int)) hret rfl (Or.inr (Or.inr (Or.inr (Or.inr ⟨rfl, rfl, rfl⟩)))) (hb hby d3_37) (by rw [e8]; exact ⟨rr, cA1, rfl, N8, K8, F11, fr_rr⟩) (by decide) (by decide)
theorem own_pf_sr1 : plainFor own_y3 = true := by first | exact plainFor_of_name (show plainName "com/example/accrue/accrue/exact/Graph" = true by first | (simp [plainName, overriddenIn]; done) | decide +kernel) | decide +kernel
theorem own_ef_sr1 (m : MethodId) (y0 : Addr) (y1 : Addr) : entryFrame m #[(.ref y0), (.ref y1)] 5 = mkF m 0 #[rv y0, rv y1, .unset, .unset, .unset] [] := by first | (simp [entryFrame, mkF, argsToLocals, Value.category]; done) | rfl
def own_Qsr1 (Z : State) (ca : Addr) (ra : Addr) (kc : ClassId) (kr : ClassId) (r1 : Int32) (r2 : Int32) (r3 : Int32) (r4 : Int32) (r5 : Int32) (r6 : Int32) (h0 : Heap) (n0 : Nat) (v : Option Value) (h : Heap) (L : List Loc) : Prop := ∃ (rr : Addr) (kx : ClassId), v = some (.ref rr) ∧ Fr n0 L ∧ Keep h0 h [] ∧ own_Ar Z h rr kx .int [(.int (0 : Int32)), (.int r6)] ∧ h0.size ≤ rr
set_option maxRecDepth 65536 in
set_option maxHeartbeats 40000000 in
theorem own_rmsr1 (l : Launch) (Z : State) (a0 : Array Value) (hw : ∀ d ∈ tables_1, d.before a0 Z = true) (ws : List Jvm.Cond) (ca : Addr) (ra : Addr) (kc : ClassId) (kr : ClassId) (r1 : Int32) (r2 : Int32) (r3 : Int32) (r4 : Int32) (r5 : Int32) (r6 : Int32) (h0 : Heap) (n0 : Nat) (Z0 : n0 ≤ h0.size) (P0 : own_Ar Z h0 ca kc .int [(.int (0 : Int32)), (.int (6 : Int32))]) (P1 : own_Ar Z h0 ra kr .int [(.int (0 : Int32)), (.int r1), (.int r2), (.int r3), (.int r4), (.int r5), (.int r6)]) :
    MetFree l own_y3 (head1 (Jvm.Cond.code own_y3 prog_18_method_4_code 5 (some (.array .int)) :: ws) ({ frames := 0, cells := 1, slots := 2, locals := 0 } : Room)) (fun az Uz => az = #[(.ref ca), (.ref ra)] ∧ Z.Warmed39 Uz.vm ∧ Uz.heap = h0) (fun _ _ _ _ _ => True) (fun _ U o U' => ∃ v L, o = .returned v ∧ own_Qsr1 Z ca ra kc kr r1 r2 r3 r4 r5 r6 h0 n0 v U'.heap L ∧ FrameEnd U o U' L ({ frames := 0, cells := 1, slots := 2, locals := 0 } : Room).cells ({ frames := 0, cells := 1, slots := 2, locals := 0 } : Room).slots) := by
  refine MetFree.of_bodySF own_pf_sr1 hisR ?_
  intro p e s m args below meth c s₁ Bd hml0 hP hK
  obtain ⟨rfl, hZ, hh⟩ := hP
  have hx := Bd.exec
  have hby := Bd.bytes
  have hml : c.maxLocals = 5 := hml0
  have hown : s.vm.findClass "com/example/accrue/accrue/exact/Graph" = some m.cls := findClass_of_methodNamed Bd.named
  have hnm := (name_of_methodNamed Bd.named Bd.method).1
  have hlk : meth.locks = false := BodyLoose.notSynchronized Bd
  have hret := Bd.returns
  have X0 : Stand p l e ({ frames := 0, cells := 1, slots := 2, locals := 0 } : Room) s m #[(.ref ca), (.ref ra)] below meth c s₁ [] 0 0 := Stand.of_body Bd
  have e0 : s₁.heap = h0 := by rw [← hh, Bd.state]; rfl
  have N0 := Fr.nil n0
  show own_E p e below (own_K s (own_Qsr1 Z ca ra kc kr r1 r2 r3 r4 r5 r6 h0 n0) ({ frames := 0, cells := 1, slots := 2, locals := 0 } : Room).cells ({ frames := 0, cells := 1, slots := 2, locals := 0 } : Room).slots) s₁ (entryFrame m #[(.ref ca), (.ref ra)] 5)
  refine own_S (mkF m 0 #[rv ca, rv ra, .unset, .unset, .unset] []) (fun _ k => castTop (own_ef_sr1 m (ca) (ra)) k) ?_
  refine own_S (mkF m 1 #[rv ca, rv ra, .unset, .unset, .unset] [(.ref ca)]) (fun _ k => XS.aloadN X0.here hx rfl (hb hby d3_0) rfl rfl k) ?_
  refine own_S (mkF m 2 #[rv ca, rv ra, .unset, .unset, .unset] [(.int 2)]) (fun _ k => own_alen X0 hx hZ e0 P0 (g := (mkF m 1 #[rv ca, rv ra, .unset, .unset, .unset] [(.ref ca)])) rfl rfl (hb hby d3_1) _ k) ?_
  refine own_S (mkF m 3 #[rv ca, rv ra, .unset, .unset, .unset] [(.int 1), (.int 2)]) (fun _ k => XS.iconst X0.here hx rfl (hb hby d3_2) k) ?_
  refine own_S (mkF m 4 #[rv ca, rv ra, .unset, .unset, .unset] [(.int 1)]) (fun _ k => XS.isub X0.here hx rfl (hb hby d3_3) rfl k) ?_
  refine own_S (mkF m 5 #[rv ca, rv ra, .val (.int 1), .unset, .unset] []) (fun _ k => XS.istoreN X0.here hx rfl (hb hby d3_4) rfl (l' := #[rv ca, rv ra, .val (.int 1), .unset, .unset]) rfl k) ?_
  refine own_S (mkF m 6 #[rv ca, rv ra, .val (.int 1), .unset, .unset] [(.int 1)]) (fun _ k => XS.iloadN X0.here hx rfl (hb hby d3_5) rfl k) ?_
  refine own_S (mkF m 7 #[rv ca, rv ra, .val (.int 1), .unset, .unset] [(.int 1), (.int 1)]) (fun _ k => XS.iconst X0.here hx rfl (hb hby d3_6) k) ?_
  refine own_S (mkF m 8 #[rv ca, rv ra, .val (.int 1), .unset, .unset] [(.int 2)]) (fun _ k => XS.iadd X0.here hx rfl (hb hby d3_7) rfl k) ?_
  obtain ⟨T1, h1, cA1, X1, e1, E1, A1, st1⟩ := newP X0 hx hZ (own_g hw (i := 0) rfl) e0 (g := (mkF m 8 #[rv ca, rv ra, .val (.int 1), .unset, .unset] [(.int 2)])) rfl (hb hby d3_8) rfl (by decide) (cap := 2) (by decide) (by decide) (by decide) (by decide)
  obtain ⟨rr, g1⟩ : ∃ z, z = h0.size := ⟨_, rfl⟩
  rw [← g1] at A1 st1
  have n2 : ca ≠ rr := Nat.ne_of_lt (Nat.lt_of_lt_of_eq P0.lt g1.symm)
  have n3 : ra ≠ rr := Nat.ne_of_lt (Nat.lt_of_lt_of_eq P1.lt g1.symm)
  have ge_rr : n0 ≤ rr := Nat.le_trans Z0 (Nat.le_of_eq g1.symm)
  have fr_rr : h0.size ≤ rr := Nat.le_trans (Keep.refl h0 []).1 (Nat.le_of_eq g1.symm)
  have K1 : Keep h0 h1 [] := (Keep.refl _ _).ext E1
  have F4 := P0.ext E1
  have F5 := P1.ext E1
  have Z1 : n0 ≤ h1.size := Nat.le_trans Z0 E1.1
  have F6 : own_Ar Z h1 rr cA1 .int [(.int (0 : Int32)), (.int (0 : Int32))] := own_Ar.new A1 rfl
  refine own_S (mkF m 10 #[rv ca, rv ra, .val (.int 1), .unset, .unset] [(.ref rr)]) st1 ?_
  refine own_S (mkF m 11 #[rv ca, rv ra, .val (.int 1), rv rr, .unset] []) (fun _ k => XS.astoreN X1.here hx rfl (hb hby d3_10) rfl rfl (l' := #[rv ca, rv ra, .val (.int 1), rv rr, .unset]) rfl k) ?_
  refine own_S (mkF m 12 #[rv ca, rv ra, .val (.int 1), rv rr, .unset] [(.int 0)]) (fun _ k => XS.iconst X1.here hx rfl (hb hby d3_11) k) ?_
  refine own_S (mkF m 14 #[rv ca, rv ra, .val (.int 1), rv rr, .val (.int 0)] []) (fun _ k => XS.istore X1.here hx rfl (hb hby d3_12) rfl (l' := #[rv ca, rv ra, .val (.int 1), rv rr, .val (.int 0)]) rfl k) ?_
  refine own_S (mkF m 16 #[rv ca, rv ra, .val (.int 1), rv rr, .val (.int 0)] [(.int 0)]) (fun _ k => XS.iload X1.here hx rfl (hb hby d3_14) rfl k) ?_
  refine own_S (mkF m 17 #[rv ca, rv ra, .val (.int 1), rv rr, .val (.int 0)] [(.int 1), (.int 0)]) (fun _ k => XS.iloadN X1.here hx rfl (hb hby d3_16) rfl k) ?_
  have hc7 : ¬ ((1 : Int32) < (0 : Int32)) := by decide
  refine own_S (mkF m 20 #[rv ca, rv ra, .val (.int 1), rv rr, .val (.int 0)] []) (fun _ k => XS.icmpNo X1.here hx rfl (hb hby d3_17) rfl (flt hc7).2.2.1 k) ?_
  refine own_S (mkF m 21 #[rv ca, rv ra, .val (.int 1), rv rr, .val (.int 0)] [(.ref rr)]) (fun _ k => XS.aloadN X1.here hx rfl (hb hby d3_20) rfl rfl k) ?_
  refine own_S (mkF m 23 #[rv ca, rv ra, .val (.int 1), rv rr, .val (.int 0)] [(.int 0), (.ref rr)]) (fun _ k => XS.iload X1.here hx rfl (hb hby d3_21) rfl k) ?_
  refine own_S (mkF m 24 #[rv ca, rv ra, .val (.int 1), rv rr, .val (.int 0)] [(.ref ra), (.int 0), (.ref rr)]) (fun _ k => XS.aloadN X1.here hx rfl (hb hby d3_23) rfl rfl k) ?_
  refine own_S (mkF m 25 #[rv ca, rv ra, .val (.int 1), rv rr, .val (.int 0)] [(.ref ca), (.ref ra), (.int 0), (.ref rr)]) (fun _ k => XS.aloadN X1.here hx rfl (hb hby d3_24) rfl rfl k) ?_
  refine own_S (mkF m 27 #[rv ca, rv ra, .val (.int 1), rv rr, .val (.int 0)] [(.int 0), (.ref ca), (.ref ra), (.int 0), (.ref rr)]) (fun _ k => XS.iload X1.here hx rfl (hb hby d3_25) rfl k) ?_
  refine own_S (mkF m 28 #[rv ca, rv ra, .val (.int 1), rv rr, .val (.int 0)] [(.int 0), (.ref ra), (.int 0), (.ref rr)]) (fun _ k => own_ldI X1 hx hZ e1 F4 (by decide) rfl (g := (mkF m 27 #[rv ca, rv ra, .val (.int 1), rv rr, .val (.int 0)] [(.int 0), (.ref ca), (.ref ra), (.int 0), (.ref rr)])) rfl rfl (hb hby d3_27) _ k) ?_
  refine own_S (mkF m 29 #[rv ca, rv ra, .val (.int 1), rv rr, .val (.int 0)] [(.int 0), (.int 0), (.ref rr)]) (fun _ k => own_ldI X1 hx hZ e1 F5 (by decide) rfl (g := (mkF m 28 #[rv ca, rv ra, .val (.int 1), rv rr, .val (.int 0)] [(.int 0), (.ref ra), (.int 0), (.ref rr)])) rfl rfl (hb hby d3_28) _ k) ?_
  obtain ⟨T8, h8, X8, e8, W8, AR8, st8⟩ := own_stI (j := (0 : Int32)) X1 hx hZ e1 F6 (by decide) (show (0 : Nat) < 2 from by decide) (g := (mkF m 29 #[rv ca, rv ra, .val (.int 1), rv rr, .val (.int 0)] [(.int 0), (.int 0), (.ref rr)])) rfl rfl (hb hby d3_29)
  refine own_S (mkF m 30 #[rv ca, rv ra, .val (.int 1), rv rr, .val (.int 0)] []) st8 ?_
  have F9 := F4.other W8 n2
  have F10 := F5.other W8 n3
  have F11 : own_Ar Z h8 rr cA1 .int [(.int 0), (.int (0 : Int32))] := AR8
  have N8 := Fr.snoc X8 N0 ge_rr
  have Z8 : n0 ≤ h8.size := by rw [Wr.size W8]; exact Z1
  have K8 : Keep h0 h8 [] := K1.wr W8 (Or.inr fr_rr)
  refine own_S (mkF m 33 #[rv ca, rv ra, .val (.int 1), rv rr, .val (.int 1)] []) (fun _ k => XS.iinc X8.here hx rfl (hb hby d3_30) rfl (l' := #[rv ca, rv ra, .val (.int 1), rv rr, .val (.int 1)]) rfl k) ?_
  refine own_S (mkF m 14 #[rv ca, rv ra, .val (.int 1), rv rr, .val (.int 1)] []) (fun _ k => XS.goto X8.here hx rfl (pc0 := 33) (pc' := 14) rfl (hb hby d3_33) (by decide) (by decide) k) ?_
  refine own_S (mkF m 16 #[rv ca, rv ra, .val (.int 1), rv rr, .val (.int 1)] [(.int 1)]) (fun _ k => XS.iload X8.here hx rfl (hb hby d3_14) rfl k) ?_
  refine own_S (mkF m 17 #[rv ca, rv ra, .val (.int 1), rv rr, .val (.int 1)] [(.int 1), (.int 1)]) (fun _ k => XS.iloadN X8.here hx rfl (hb hby d3_16) rfl k) ?_
  have hc12 : ¬ ((1 : Int32) < (1 : Int32)) := by decide
  refine own_S (mkF m 20 #[rv ca, rv ra, .val (.int 1), rv rr, .val (.int 1)] []) (fun _ k => XS.icmpNo X8.here hx rfl (hb hby d3_17) rfl (flt hc12).2.2.1 k) ?_
  refine own_S (mkF m 21 #[rv ca, rv ra, .val (.int 1), rv rr, .val (.int 1)] [(.ref rr)]) (fun _ k => XS.aloadN X8.here hx rfl (hb hby d3_20) rfl rfl k) ?_
  refine own_S (mkF m 23 #[rv ca, rv ra, .val (.int 1), rv rr, .val (.int 1)] [(.int 1), (.ref rr)]) (fun _ k => XS.iload X8.here hx rfl (hb hby d3_21) rfl k) ?_
  refine own_S (mkF m 24 #[rv ca, rv ra, .val (.int 1), rv rr, .val (.int 1)] [(.ref ra), (.int 1), (.ref rr)]) (fun _ k => XS.aloadN X8.here hx rfl (hb hby d3_23) rfl rfl k) ?_
  refine own_S (mkF m 25 #[rv ca, rv ra, .val (.int 1), rv rr, .val (.int 1)] [(.ref ca), (.ref ra), (.int 1), (.ref rr)]) (fun _ k => XS.aloadN X8.here hx rfl (hb hby d3_24) rfl rfl k) ?_
  refine own_S (mkF m 27 #[rv ca, rv ra, .val (.int 1), rv rr, .val (.int 1)] [(.int 1), (.ref ca), (.ref ra), (.int 1), (.ref rr)]) (fun _ k => XS.iload X8.here hx rfl (hb hby d3_25) rfl k) ?_
  refine own_S (mkF m 28 #[rv ca, rv ra, .val (.int 1), rv rr, .val (.int 1)] [(.int 6), (.ref ra), (.int 1), (.ref rr)]) (fun _ k => own_ldI X8 hx hZ e8 F9 (by decide) rfl (g := (mkF m 27 #[rv ca, rv ra, .val (.int 1), rv rr, .val (.int 1)] [(.int 1), (.ref ca), (.ref ra), (.int 1), (.ref rr)])) rfl rfl (hb hby d3_27) _ k) ?_
  refine own_S (mkF m 29 #[rv ca, rv ra, .val (.int 1), rv rr, .val (.int 1)] [(.int r6), (.int 1), (.ref rr)]) (fun _ k => own_ldI X8 hx hZ e8 F10 (by decide) rfl (g := (mkF m 28 #[rv ca, rv ra, .val (.int 1), rv rr, .val (.int 1)] [(.int 6), (.ref ra), (.int 1), (.ref rr)])) rfl rfl (hb hby d3_28) _ k) ?_
  obtain ⟨T13, h13, X13, e13, W13, AR13, st13⟩ := own_stI (j := (1 : Int32)) X8 hx hZ e8 F11 (by decide) (show (1 : Nat) < 2 from by decide) (g := (mkF m 29 #[rv ca, rv ra, .val (.int 1), rv rr, .val (.int 1)] [(.int r6), (.int 1), (.ref rr)])) rfl rfl (hb hby d3_29)
  refine own_S (mkF m 30 #[rv ca, rv ra, .val (.int 1), rv rr, .val (.int 1)] []) st13 ?_
  have F14 := F9.other W13 n2
  have F15 := F10.other W13 n3
  have F16 : own_Ar Z h13 rr cA1 .int [(.int 0), (.int r6)] := AR13
  have N13 := Fr.snoc X13 N8 ge_rr
  have Z13 : n0 ≤ h13.size := by rw [Wr.size W13]; exact Z8
  have K13 : Keep h0 h13 [] := K8.wr W13 (Or.inr fr_rr)
  refine own_S (mkF m 33 #[rv ca, rv ra, .val (.int 1), rv rr, .val (.int 2)] []) (fun _ k => XS.iinc X13.here hx rfl (hb hby d3_30) rfl (l' := #[rv ca, rv ra, .val (.int 1), rv rr, .val (.int 2)]) rfl k) ?_
  refine own_S (mkF m 14 #[rv ca, rv ra, .val (.int 1), rv rr, .val (.int 2)] []) (fun _ k => XS.goto X13.here hx rfl (pc0 := 33) (pc' := 14) rfl (hb hby d3_33) (by decide) (by decide) k) ?_
  refine own_S (mkF m 16 #[rv ca, rv ra, .val (.int 1), rv rr, .val (.int 2)] [(.int 2)]) (fun _ k => XS.iload X13.here hx rfl (hb hby d3_14) rfl k) ?_
  refine own_S (mkF m 17 #[rv ca, rv ra, .val (.int 1), rv rr, .val (.int 2)] [(.int 1), (.int 2)]) (fun _ k => XS.iloadN X13.here hx rfl (hb hby d3_16) rfl k) ?_
  have hc17 : (1 : Int32) < (2 : Int32) := by decide
  refine own_S (mkF m 36 #[rv ca, rv ra, .val (.int 1), rv rr, .val (.int 2)] []) (fun _ k => XS.icmpYes X13.here hx rfl (pc0 := 17) (pc' := 36) rfl (hb hby d3_17) rfl (tlt hc17).2.2.1 (by decide) (by decide) k) ?_
  refine own_S (mkF m 37 #[rv ca, rv ra, .val (.int 1), rv rr, .val (.int 2)] [(.ref rr)]) (fun _ k => XS.aloadN X13.here hx rfl (hb hby d3_36) rfl rfl k) ?_
  exact own_ret X13 hx hlk (t := (.array .int)) hret rfl (Or.inr (Or.inr (Or.inr (Or.inr ⟨rfl, rfl, rfl⟩)))) (hb hby d3_37) (by rw [e13]; exact ⟨rr, cA1, rfl, N13, K13, F16, fr_rr⟩) (by decide) (by decide)
theorem own_pf_sr2 : plainFor own_y3 = true := by first | exact plainFor_of_name (show plainName "com/example/accrue/accrue/exact/Graph" = true by first | (simp [plainName, overriddenIn]; done) | decide +kernel) | decide +kernel
theorem own_ef_sr2 (m : MethodId) (y0 : Addr) (y1 : Addr) : entryFrame m #[(.ref y0), (.ref y1)] 5 = mkF m 0 #[rv y0, rv y1, .unset, .unset, .unset] [] := by first | (simp [entryFrame, mkF, argsToLocals, Value.category]; done) | rfl
def own_Qsr2 (Z : State) (ca : Addr) (ra : Addr) (kc : ClassId) (kr : ClassId) (x1 : Int32) (y1 : Int32) (r1 : Int32) (r2 : Int32) (r3 : Int32) (r4 : Int32) (r5 : Int32) (r6 : Int32) (h0 : Heap) (n0 : Nat) (v : Option Value) (h : Heap) (L : List Loc) : Prop := ∃ (rr : Addr) (kx : ClassId), v = some (.ref rr) ∧ Fr n0 L ∧ Keep h0 h [] ∧ own_Ar Z h rr kx .int [(.int (0 : Int32)), (.int y1), (.int r6)] ∧ h0.size ≤ rr
set_option maxRecDepth 65536 in
set_option maxHeartbeats 40000000 in
theorem own_rmsr2 (l : Launch) (Z : State) (a0 : Array Value) (hw : ∀ d ∈ tables_1, d.before a0 Z = true) (ws : List Jvm.Cond) (ca : Addr) (ra : Addr) (kc : ClassId) (kr : ClassId) (x1 : Int32) (y1 : Int32) (r1 : Int32) (r2 : Int32) (r3 : Int32) (r4 : Int32) (r5 : Int32) (r6 : Int32) (h0 : Heap) (n0 : Nat) (Z0 : n0 ≤ h0.size) (P0 : own_Ar Z h0 ca kc .int [(.int (0 : Int32)), (.int x1), (.int (6 : Int32))]) (P1 : own_Ar Z h0 ra kr .int [(.int (0 : Int32)), (.int r1), (.int r2), (.int r3), (.int r4), (.int r5), (.int r6)]) (hnx1 : ¬ x1 < (0 : Int32)) (hvx1 : ([(.int (0 : Int32)), (.int r1), (.int r2), (.int r3), (.int r4), (.int r5), (.int r6)] : List Value)[(x1).toNatClampNeg]? = some (.int y1)) :
    MetFree l own_y3 (head1 (Jvm.Cond.code own_y3 prog_18_method_4_code 5 (some (.array .int)) :: ws) ({ frames := 0, cells := 1, slots := 3, locals := 0 } : Room)) (fun az Uz => az = #[(.ref ca), (.ref ra)] ∧ Z.Warmed39 Uz.vm ∧ Uz.heap = h0) (fun _ _ _ _ _ => True) (fun _ U o U' => ∃ v L, o = .returned v ∧ own_Qsr2 Z ca ra kc kr x1 y1 r1 r2 r3 r4 r5 r6 h0 n0 v U'.heap L ∧ FrameEnd U o U' L ({ frames := 0, cells := 1, slots := 3, locals := 0 } : Room).cells ({ frames := 0, cells := 1, slots := 3, locals := 0 } : Room).slots) := by
  refine MetFree.of_bodySF own_pf_sr2 hisR ?_
  intro p e s m args below meth c s₁ Bd hml0 hP hK
  obtain ⟨rfl, hZ, hh⟩ := hP
  have hx := Bd.exec
  have hby := Bd.bytes
  have hml : c.maxLocals = 5 := hml0
  have hown : s.vm.findClass "com/example/accrue/accrue/exact/Graph" = some m.cls := findClass_of_methodNamed Bd.named
  have hnm := (name_of_methodNamed Bd.named Bd.method).1
  have hlk : meth.locks = false := BodyLoose.notSynchronized Bd
  have hret := Bd.returns
  have X0 : Stand p l e ({ frames := 0, cells := 1, slots := 3, locals := 0 } : Room) s m #[(.ref ca), (.ref ra)] below meth c s₁ [] 0 0 := Stand.of_body Bd
  have e0 : s₁.heap = h0 := by rw [← hh, Bd.state]; rfl
  have N0 := Fr.nil n0
  show own_E p e below (own_K s (own_Qsr2 Z ca ra kc kr x1 y1 r1 r2 r3 r4 r5 r6 h0 n0) ({ frames := 0, cells := 1, slots := 3, locals := 0 } : Room).cells ({ frames := 0, cells := 1, slots := 3, locals := 0 } : Room).slots) s₁ (entryFrame m #[(.ref ca), (.ref ra)] 5)
  refine own_S (mkF m 0 #[rv ca, rv ra, .unset, .unset, .unset] []) (fun _ k => castTop (own_ef_sr2 m (ca) (ra)) k) ?_
  refine own_S (mkF m 1 #[rv ca, rv ra, .unset, .unset, .unset] [(.ref ca)]) (fun _ k => XS.aloadN X0.here hx rfl (hb hby d3_0) rfl rfl k) ?_
  refine own_S (mkF m 2 #[rv ca, rv ra, .unset, .unset, .unset] [(.int 3)]) (fun _ k => own_alen X0 hx hZ e0 P0 (g := (mkF m 1 #[rv ca, rv ra, .unset, .unset, .unset] [(.ref ca)])) rfl rfl (hb hby d3_1) _ k) ?_
  refine own_S (mkF m 3 #[rv ca, rv ra, .unset, .unset, .unset] [(.int 1), (.int 3)]) (fun _ k => XS.iconst X0.here hx rfl (hb hby d3_2) k) ?_
  refine own_S (mkF m 4 #[rv ca, rv ra, .unset, .unset, .unset] [(.int 2)]) (fun _ k => XS.isub X0.here hx rfl (hb hby d3_3) rfl k) ?_
  refine own_S (mkF m 5 #[rv ca, rv ra, .val (.int 2), .unset, .unset] []) (fun _ k => XS.istoreN X0.here hx rfl (hb hby d3_4) rfl (l' := #[rv ca, rv ra, .val (.int 2), .unset, .unset]) rfl k) ?_
  refine own_S (mkF m 6 #[rv ca, rv ra, .val (.int 2), .unset, .unset] [(.int 2)]) (fun _ k => XS.iloadN X0.here hx rfl (hb hby d3_5) rfl k) ?_
  refine own_S (mkF m 7 #[rv ca, rv ra, .val (.int 2), .unset, .unset] [(.int 1), (.int 2)]) (fun _ k => XS.iconst X0.here hx rfl (hb hby d3_6) k) ?_
  refine own_S (mkF m 8 #[rv ca, rv ra, .val (.int 2), .unset, .unset] [(.int 3)]) (fun _ k => XS.iadd X0.here hx rfl (hb hby d3_7) rfl k) ?_
  obtain ⟨T1, h1, cA1, X1, e1, E1, A1, st1⟩ := newP X0 hx hZ (own_g hw (i := 0) rfl) e0 (g := (mkF m 8 #[rv ca, rv ra, .val (.int 2), .unset, .unset] [(.int 3)])) rfl (hb hby d3_8) rfl (by decide) (cap := 3) (by decide) (by decide) (by decide) (by decide)
  obtain ⟨rr, g1⟩ : ∃ z, z = h0.size := ⟨_, rfl⟩
  rw [← g1] at A1 st1
  have n2 : ca ≠ rr := Nat.ne_of_lt (Nat.lt_of_lt_of_eq P0.lt g1.symm)
  have n3 : ra ≠ rr := Nat.ne_of_lt (Nat.lt_of_lt_of_eq P1.lt g1.symm)
  have ge_rr : n0 ≤ rr := Nat.le_trans Z0 (Nat.le_of_eq g1.symm)
  have fr_rr : h0.size ≤ rr := Nat.le_trans (Keep.refl h0 []).1 (Nat.le_of_eq g1.symm)
  have K1 : Keep h0 h1 [] := (Keep.refl _ _).ext E1
  have F4 := P0.ext E1
  have F5 := P1.ext E1
  have Z1 : n0 ≤ h1.size := Nat.le_trans Z0 E1.1
  have F6 : own_Ar Z h1 rr cA1 .int [(.int (0 : Int32)), (.int (0 : Int32)), (.int (0 : Int32))] := own_Ar.new A1 rfl
  refine own_S (mkF m 10 #[rv ca, rv ra, .val (.int 2), .unset, .unset] [(.ref rr)]) st1 ?_
  refine own_S (mkF m 11 #[rv ca, rv ra, .val (.int 2), rv rr, .unset] []) (fun _ k => XS.astoreN X1.here hx rfl (hb hby d3_10) rfl rfl (l' := #[rv ca, rv ra, .val (.int 2), rv rr, .unset]) rfl k) ?_
  refine own_S (mkF m 12 #[rv ca, rv ra, .val (.int 2), rv rr, .unset] [(.int 0)]) (fun _ k => XS.iconst X1.here hx rfl (hb hby d3_11) k) ?_
  refine own_S (mkF m 14 #[rv ca, rv ra, .val (.int 2), rv rr, .val (.int 0)] []) (fun _ k => XS.istore X1.here hx rfl (hb hby d3_12) rfl (l' := #[rv ca, rv ra, .val (.int 2), rv rr, .val (.int 0)]) rfl k) ?_
  refine own_S (mkF m 16 #[rv ca, rv ra, .val (.int 2), rv rr, .val (.int 0)] [(.int 0)]) (fun _ k => XS.iload X1.here hx rfl (hb hby d3_14) rfl k) ?_
  refine own_S (mkF m 17 #[rv ca, rv ra, .val (.int 2), rv rr, .val (.int 0)] [(.int 2), (.int 0)]) (fun _ k => XS.iloadN X1.here hx rfl (hb hby d3_16) rfl k) ?_
  have hc7 : ¬ ((2 : Int32) < (0 : Int32)) := by decide
  refine own_S (mkF m 20 #[rv ca, rv ra, .val (.int 2), rv rr, .val (.int 0)] []) (fun _ k => XS.icmpNo X1.here hx rfl (hb hby d3_17) rfl (flt hc7).2.2.1 k) ?_
  refine own_S (mkF m 21 #[rv ca, rv ra, .val (.int 2), rv rr, .val (.int 0)] [(.ref rr)]) (fun _ k => XS.aloadN X1.here hx rfl (hb hby d3_20) rfl rfl k) ?_
  refine own_S (mkF m 23 #[rv ca, rv ra, .val (.int 2), rv rr, .val (.int 0)] [(.int 0), (.ref rr)]) (fun _ k => XS.iload X1.here hx rfl (hb hby d3_21) rfl k) ?_
  refine own_S (mkF m 24 #[rv ca, rv ra, .val (.int 2), rv rr, .val (.int 0)] [(.ref ra), (.int 0), (.ref rr)]) (fun _ k => XS.aloadN X1.here hx rfl (hb hby d3_23) rfl rfl k) ?_
  refine own_S (mkF m 25 #[rv ca, rv ra, .val (.int 2), rv rr, .val (.int 0)] [(.ref ca), (.ref ra), (.int 0), (.ref rr)]) (fun _ k => XS.aloadN X1.here hx rfl (hb hby d3_24) rfl rfl k) ?_
  refine own_S (mkF m 27 #[rv ca, rv ra, .val (.int 2), rv rr, .val (.int 0)] [(.int 0), (.ref ca), (.ref ra), (.int 0), (.ref rr)]) (fun _ k => XS.iload X1.here hx rfl (hb hby d3_25) rfl k) ?_
  refine own_S (mkF m 28 #[rv ca, rv ra, .val (.int 2), rv rr, .val (.int 0)] [(.int 0), (.ref ra), (.int 0), (.ref rr)]) (fun _ k => own_ldI X1 hx hZ e1 F4 (by decide) rfl (g := (mkF m 27 #[rv ca, rv ra, .val (.int 2), rv rr, .val (.int 0)] [(.int 0), (.ref ca), (.ref ra), (.int 0), (.ref rr)])) rfl rfl (hb hby d3_27) _ k) ?_
  refine own_S (mkF m 29 #[rv ca, rv ra, .val (.int 2), rv rr, .val (.int 0)] [(.int 0), (.int 0), (.ref rr)]) (fun _ k => own_ldI X1 hx hZ e1 F5 (by decide) rfl (g := (mkF m 28 #[rv ca, rv ra, .val (.int 2), rv rr, .val (.int 0)] [(.int 0), (.ref ra), (.int 0), (.ref rr)])) rfl rfl (hb hby d3_28) _ k) ?_
  obtain ⟨T8, h8, X8, e8, W8, AR8, st8⟩ := own_stI (j := (0 : Int32)) X1 hx hZ e1 F6 (by decide) (show (0 : Nat) < 3 from by decide) (g := (mkF m 29 #[rv ca, rv ra, .val (.int 2), rv rr, .val (.int 0)] [(.int 0), (.int 0), (.ref rr)])) rfl rfl (hb hby d3_29)
  refine own_S (mkF m 30 #[rv ca, rv ra, .val (.int 2), rv rr, .val (.int 0)] []) st8 ?_
  have F9 := F4.other W8 n2
  have F10 := F5.other W8 n3
  have F11 : own_Ar Z h8 rr cA1 .int [(.int 0), (.int (0 : Int32)), (.int (0 : Int32))] := AR8
  have N8 := Fr.snoc X8 N0 ge_rr
  have Z8 : n0 ≤ h8.size := by rw [Wr.size W8]; exact Z1
  have K8 : Keep h0 h8 [] := K1.wr W8 (Or.inr fr_rr)
  refine own_S (mkF m 33 #[rv ca, rv ra, .val (.int 2), rv rr, .val (.int 1)] []) (fun _ k => XS.iinc X8.here hx rfl (hb hby d3_30) rfl (l' := #[rv ca, rv ra, .val (.int 2), rv rr, .val (.int 1)]) rfl k) ?_
  refine own_S (mkF m 14 #[rv ca, rv ra, .val (.int 2), rv rr, .val (.int 1)] []) (fun _ k => XS.goto X8.here hx rfl (pc0 := 33) (pc' := 14) rfl (hb hby d3_33) (by decide) (by decide) k) ?_
  refine own_S (mkF m 16 #[rv ca, rv ra, .val (.int 2), rv rr, .val (.int 1)] [(.int 1)]) (fun _ k => XS.iload X8.here hx rfl (hb hby d3_14) rfl k) ?_
  refine own_S (mkF m 17 #[rv ca, rv ra, .val (.int 2), rv rr, .val (.int 1)] [(.int 2), (.int 1)]) (fun _ k => XS.iloadN X8.here hx rfl (hb hby d3_16) rfl k) ?_
  have hc12 : ¬ ((2 : Int32) < (1 : Int32)) := by decide
  refine own_S (mkF m 20 #[rv ca, rv ra, .val (.int 2), rv rr, .val (.int 1)] []) (fun _ k => XS.icmpNo X8.here hx rfl (hb hby d3_17) rfl (flt hc12).2.2.1 k) ?_
  refine own_S (mkF m 21 #[rv ca, rv ra, .val (.int 2), rv rr, .val (.int 1)] [(.ref rr)]) (fun _ k => XS.aloadN X8.here hx rfl (hb hby d3_20) rfl rfl k) ?_
  refine own_S (mkF m 23 #[rv ca, rv ra, .val (.int 2), rv rr, .val (.int 1)] [(.int 1), (.ref rr)]) (fun _ k => XS.iload X8.here hx rfl (hb hby d3_21) rfl k) ?_
  refine own_S (mkF m 24 #[rv ca, rv ra, .val (.int 2), rv rr, .val (.int 1)] [(.ref ra), (.int 1), (.ref rr)]) (fun _ k => XS.aloadN X8.here hx rfl (hb hby d3_23) rfl rfl k) ?_
  refine own_S (mkF m 25 #[rv ca, rv ra, .val (.int 2), rv rr, .val (.int 1)] [(.ref ca), (.ref ra), (.int 1), (.ref rr)]) (fun _ k => XS.aloadN X8.here hx rfl (hb hby d3_24) rfl rfl k) ?_
  refine own_S (mkF m 27 #[rv ca, rv ra, .val (.int 2), rv rr, .val (.int 1)] [(.int 1), (.ref ca), (.ref ra), (.int 1), (.ref rr)]) (fun _ k => XS.iload X8.here hx rfl (hb hby d3_25) rfl k) ?_
  refine own_S (mkF m 28 #[rv ca, rv ra, .val (.int 2), rv rr, .val (.int 1)] [(.int x1), (.ref ra), (.int 1), (.ref rr)]) (fun _ k => own_ldI X8 hx hZ e8 F9 (by decide) rfl (g := (mkF m 27 #[rv ca, rv ra, .val (.int 2), rv rr, .val (.int 1)] [(.int 1), (.ref ca), (.ref ra), (.int 1), (.ref rr)])) rfl rfl (hb hby d3_27) _ k) ?_
  refine own_S (mkF m 29 #[rv ca, rv ra, .val (.int 2), rv rr, .val (.int 1)] [(.int y1), (.int 1), (.ref rr)]) (fun _ k => own_ldI X8 hx hZ e8 F10 hnx1 hvx1 (g := (mkF m 28 #[rv ca, rv ra, .val (.int 2), rv rr, .val (.int 1)] [(.int x1), (.ref ra), (.int 1), (.ref rr)])) rfl rfl (hb hby d3_28) _ k) ?_
  obtain ⟨T13, h13, X13, e13, W13, AR13, st13⟩ := own_stI (j := (1 : Int32)) X8 hx hZ e8 F11 (by decide) (show (1 : Nat) < 3 from by decide) (g := (mkF m 29 #[rv ca, rv ra, .val (.int 2), rv rr, .val (.int 1)] [(.int y1), (.int 1), (.ref rr)])) rfl rfl (hb hby d3_29)
  refine own_S (mkF m 30 #[rv ca, rv ra, .val (.int 2), rv rr, .val (.int 1)] []) st13 ?_
  have F14 := F9.other W13 n2
  have F15 := F10.other W13 n3
  have F16 : own_Ar Z h13 rr cA1 .int [(.int 0), (.int y1), (.int (0 : Int32))] := AR13
  have N13 := Fr.snoc X13 N8 ge_rr
  have Z13 : n0 ≤ h13.size := by rw [Wr.size W13]; exact Z8
  have K13 : Keep h0 h13 [] := K8.wr W13 (Or.inr fr_rr)
  refine own_S (mkF m 33 #[rv ca, rv ra, .val (.int 2), rv rr, .val (.int 2)] []) (fun _ k => XS.iinc X13.here hx rfl (hb hby d3_30) rfl (l' := #[rv ca, rv ra, .val (.int 2), rv rr, .val (.int 2)]) rfl k) ?_
  refine own_S (mkF m 14 #[rv ca, rv ra, .val (.int 2), rv rr, .val (.int 2)] []) (fun _ k => XS.goto X13.here hx rfl (pc0 := 33) (pc' := 14) rfl (hb hby d3_33) (by decide) (by decide) k) ?_
  refine own_S (mkF m 16 #[rv ca, rv ra, .val (.int 2), rv rr, .val (.int 2)] [(.int 2)]) (fun _ k => XS.iload X13.here hx rfl (hb hby d3_14) rfl k) ?_
  refine own_S (mkF m 17 #[rv ca, rv ra, .val (.int 2), rv rr, .val (.int 2)] [(.int 2), (.int 2)]) (fun _ k => XS.iloadN X13.here hx rfl (hb hby d3_16) rfl k) ?_
  have hc17 : ¬ ((2 : Int32) < (2 : Int32)) := by decide
  refine own_S (mkF m 20 #[rv ca, rv ra, .val (.int 2), rv rr, .val (.int 2)] []) (fun _ k => XS.icmpNo X13.here hx rfl (hb hby d3_17) rfl (flt hc17).2.2.1 k) ?_
  refine own_S (mkF m 21 #[rv ca, rv ra, .val (.int 2), rv rr, .val (.int 2)] [(.ref rr)]) (fun _ k => XS.aloadN X13.here hx rfl (hb hby d3_20) rfl rfl k) ?_
  refine own_S (mkF m 23 #[rv ca, rv ra, .val (.int 2), rv rr, .val (.int 2)] [(.int 2), (.ref rr)]) (fun _ k => XS.iload X13.here hx rfl (hb hby d3_21) rfl k) ?_
  refine own_S (mkF m 24 #[rv ca, rv ra, .val (.int 2), rv rr, .val (.int 2)] [(.ref ra), (.int 2), (.ref rr)]) (fun _ k => XS.aloadN X13.here hx rfl (hb hby d3_23) rfl rfl k) ?_
  refine own_S (mkF m 25 #[rv ca, rv ra, .val (.int 2), rv rr, .val (.int 2)] [(.ref ca), (.ref ra), (.int 2), (.ref rr)]) (fun _ k => XS.aloadN X13.here hx rfl (hb hby d3_24) rfl rfl k) ?_
  refine own_S (mkF m 27 #[rv ca, rv ra, .val (.int 2), rv rr, .val (.int 2)] [(.int 2), (.ref ca), (.ref ra), (.int 2), (.ref rr)]) (fun _ k => XS.iload X13.here hx rfl (hb hby d3_25) rfl k) ?_
  refine own_S (mkF m 28 #[rv ca, rv ra, .val (.int 2), rv rr, .val (.int 2)] [(.int 6), (.ref ra), (.int 2), (.ref rr)]) (fun _ k => own_ldI X13 hx hZ e13 F14 (by decide) rfl (g := (mkF m 27 #[rv ca, rv ra, .val (.int 2), rv rr, .val (.int 2)] [(.int 2), (.ref ca), (.ref ra), (.int 2), (.ref rr)])) rfl rfl (hb hby d3_27) _ k) ?_
  refine own_S (mkF m 29 #[rv ca, rv ra, .val (.int 2), rv rr, .val (.int 2)] [(.int r6), (.int 2), (.ref rr)]) (fun _ k => own_ldI X13 hx hZ e13 F15 (by decide) rfl (g := (mkF m 28 #[rv ca, rv ra, .val (.int 2), rv rr, .val (.int 2)] [(.int 6), (.ref ra), (.int 2), (.ref rr)])) rfl rfl (hb hby d3_28) _ k) ?_
  obtain ⟨T18, h18, X18, e18, W18, AR18, st18⟩ := own_stI (j := (2 : Int32)) X13 hx hZ e13 F16 (by decide) (show (2 : Nat) < 3 from by decide) (g := (mkF m 29 #[rv ca, rv ra, .val (.int 2), rv rr, .val (.int 2)] [(.int r6), (.int 2), (.ref rr)])) rfl rfl (hb hby d3_29)
  refine own_S (mkF m 30 #[rv ca, rv ra, .val (.int 2), rv rr, .val (.int 2)] []) st18 ?_
  have F19 := F14.other W18 n2
  have F20 := F15.other W18 n3
  have F21 : own_Ar Z h18 rr cA1 .int [(.int 0), (.int y1), (.int r6)] := AR18
  have N18 := Fr.snoc X18 N13 ge_rr
  have Z18 : n0 ≤ h18.size := by rw [Wr.size W18]; exact Z13
  have K18 : Keep h0 h18 [] := K13.wr W18 (Or.inr fr_rr)
  refine own_S (mkF m 33 #[rv ca, rv ra, .val (.int 2), rv rr, .val (.int 3)] []) (fun _ k => XS.iinc X18.here hx rfl (hb hby d3_30) rfl (l' := #[rv ca, rv ra, .val (.int 2), rv rr, .val (.int 3)]) rfl k) ?_
  refine own_S (mkF m 14 #[rv ca, rv ra, .val (.int 2), rv rr, .val (.int 3)] []) (fun _ k => XS.goto X18.here hx rfl (pc0 := 33) (pc' := 14) rfl (hb hby d3_33) (by decide) (by decide) k) ?_
  refine own_S (mkF m 16 #[rv ca, rv ra, .val (.int 2), rv rr, .val (.int 3)] [(.int 3)]) (fun _ k => XS.iload X18.here hx rfl (hb hby d3_14) rfl k) ?_
  refine own_S (mkF m 17 #[rv ca, rv ra, .val (.int 2), rv rr, .val (.int 3)] [(.int 2), (.int 3)]) (fun _ k => XS.iloadN X18.here hx rfl (hb hby d3_16) rfl k) ?_
  have hc22 : (2 : Int32) < (3 : Int32) := by decide
  refine own_S (mkF m 36 #[rv ca, rv ra, .val (.int 2), rv rr, .val (.int 3)] []) (fun _ k => XS.icmpYes X18.here hx rfl (pc0 := 17) (pc' := 36) rfl (hb hby d3_17) rfl (tlt hc22).2.2.1 (by decide) (by decide) k) ?_
  refine own_S (mkF m 37 #[rv ca, rv ra, .val (.int 2), rv rr, .val (.int 3)] [(.ref rr)]) (fun _ k => XS.aloadN X18.here hx rfl (hb hby d3_36) rfl rfl k) ?_
  exact own_ret X18 hx hlk (t := (.array .int)) hret rfl (Or.inr (Or.inr (Or.inr (Or.inr ⟨rfl, rfl, rfl⟩)))) (hb hby d3_37) (by rw [e18]; exact ⟨rr, cA1, rfl, N18, K18, F21, fr_rr⟩) (by decide) (by decide)
theorem own_pf_sr3 : plainFor own_y3 = true := by first | exact plainFor_of_name (show plainName "com/example/accrue/accrue/exact/Graph" = true by first | (simp [plainName, overriddenIn]; done) | decide +kernel) | decide +kernel
theorem own_ef_sr3 (m : MethodId) (y0 : Addr) (y1 : Addr) : entryFrame m #[(.ref y0), (.ref y1)] 5 = mkF m 0 #[rv y0, rv y1, .unset, .unset, .unset] [] := by first | (simp [entryFrame, mkF, argsToLocals, Value.category]; done) | rfl
def own_Qsr3 (Z : State) (ca : Addr) (ra : Addr) (kc : ClassId) (kr : ClassId) (x1 : Int32) (x2 : Int32) (y1 : Int32) (y2 : Int32) (r1 : Int32) (r2 : Int32) (r3 : Int32) (r4 : Int32) (r5 : Int32) (r6 : Int32) (h0 : Heap) (n0 : Nat) (v : Option Value) (h : Heap) (L : List Loc) : Prop := ∃ (rr : Addr) (kx : ClassId), v = some (.ref rr) ∧ Fr n0 L ∧ Keep h0 h [] ∧ own_Ar Z h rr kx .int [(.int (0 : Int32)), (.int y1), (.int y2), (.int r6)] ∧ h0.size ≤ rr
set_option maxRecDepth 65536 in
set_option maxHeartbeats 40000000 in
theorem own_rmsr3 (l : Launch) (Z : State) (a0 : Array Value) (hw : ∀ d ∈ tables_1, d.before a0 Z = true) (ws : List Jvm.Cond) (ca : Addr) (ra : Addr) (kc : ClassId) (kr : ClassId) (x1 : Int32) (x2 : Int32) (y1 : Int32) (y2 : Int32) (r1 : Int32) (r2 : Int32) (r3 : Int32) (r4 : Int32) (r5 : Int32) (r6 : Int32) (h0 : Heap) (n0 : Nat) (Z0 : n0 ≤ h0.size) (P0 : own_Ar Z h0 ca kc .int [(.int (0 : Int32)), (.int x1), (.int x2), (.int (6 : Int32))]) (P1 : own_Ar Z h0 ra kr .int [(.int (0 : Int32)), (.int r1), (.int r2), (.int r3), (.int r4), (.int r5), (.int r6)]) (hnx1 : ¬ x1 < (0 : Int32)) (hvx1 : ([(.int (0 : Int32)), (.int r1), (.int r2), (.int r3), (.int r4), (.int r5), (.int r6)] : List Value)[(x1).toNatClampNeg]? = some (.int y1)) (hnx2 : ¬ x2 < (0 : Int32)) (hvx2 : ([(.int (0 : Int32)), (.int r1), (.int r2), (.int r3), (.int r4), (.int r5), (.int r6)] : List Value)[(x2).toNatClampNeg]? = some (.int y2)) :
    MetFree l own_y3 (head1 (Jvm.Cond.code own_y3 prog_18_method_4_code 5 (some (.array .int)) :: ws) ({ frames := 0, cells := 1, slots := 4, locals := 0 } : Room)) (fun az Uz => az = #[(.ref ca), (.ref ra)] ∧ Z.Warmed39 Uz.vm ∧ Uz.heap = h0) (fun _ _ _ _ _ => True) (fun _ U o U' => ∃ v L, o = .returned v ∧ own_Qsr3 Z ca ra kc kr x1 x2 y1 y2 r1 r2 r3 r4 r5 r6 h0 n0 v U'.heap L ∧ FrameEnd U o U' L ({ frames := 0, cells := 1, slots := 4, locals := 0 } : Room).cells ({ frames := 0, cells := 1, slots := 4, locals := 0 } : Room).slots) := by
  refine MetFree.of_bodySF own_pf_sr3 hisR ?_
  intro p e s m args below meth c s₁ Bd hml0 hP hK
  obtain ⟨rfl, hZ, hh⟩ := hP
  have hx := Bd.exec
  have hby := Bd.bytes
  have hml : c.maxLocals = 5 := hml0
  have hown : s.vm.findClass "com/example/accrue/accrue/exact/Graph" = some m.cls := findClass_of_methodNamed Bd.named
  have hnm := (name_of_methodNamed Bd.named Bd.method).1
  have hlk : meth.locks = false := BodyLoose.notSynchronized Bd
  have hret := Bd.returns
  have X0 : Stand p l e ({ frames := 0, cells := 1, slots := 4, locals := 0 } : Room) s m #[(.ref ca), (.ref ra)] below meth c s₁ [] 0 0 := Stand.of_body Bd
  have e0 : s₁.heap = h0 := by rw [← hh, Bd.state]; rfl
  have N0 := Fr.nil n0
  show own_E p e below (own_K s (own_Qsr3 Z ca ra kc kr x1 x2 y1 y2 r1 r2 r3 r4 r5 r6 h0 n0) ({ frames := 0, cells := 1, slots := 4, locals := 0 } : Room).cells ({ frames := 0, cells := 1, slots := 4, locals := 0 } : Room).slots) s₁ (entryFrame m #[(.ref ca), (.ref ra)] 5)
  refine own_S (mkF m 0 #[rv ca, rv ra, .unset, .unset, .unset] []) (fun _ k => castTop (own_ef_sr3 m (ca) (ra)) k) ?_
  refine own_S (mkF m 1 #[rv ca, rv ra, .unset, .unset, .unset] [(.ref ca)]) (fun _ k => XS.aloadN X0.here hx rfl (hb hby d3_0) rfl rfl k) ?_
  refine own_S (mkF m 2 #[rv ca, rv ra, .unset, .unset, .unset] [(.int 4)]) (fun _ k => own_alen X0 hx hZ e0 P0 (g := (mkF m 1 #[rv ca, rv ra, .unset, .unset, .unset] [(.ref ca)])) rfl rfl (hb hby d3_1) _ k) ?_
  refine own_S (mkF m 3 #[rv ca, rv ra, .unset, .unset, .unset] [(.int 1), (.int 4)]) (fun _ k => XS.iconst X0.here hx rfl (hb hby d3_2) k) ?_
  refine own_S (mkF m 4 #[rv ca, rv ra, .unset, .unset, .unset] [(.int 3)]) (fun _ k => XS.isub X0.here hx rfl (hb hby d3_3) rfl k) ?_
  refine own_S (mkF m 5 #[rv ca, rv ra, .val (.int 3), .unset, .unset] []) (fun _ k => XS.istoreN X0.here hx rfl (hb hby d3_4) rfl (l' := #[rv ca, rv ra, .val (.int 3), .unset, .unset]) rfl k) ?_
  refine own_S (mkF m 6 #[rv ca, rv ra, .val (.int 3), .unset, .unset] [(.int 3)]) (fun _ k => XS.iloadN X0.here hx rfl (hb hby d3_5) rfl k) ?_
  refine own_S (mkF m 7 #[rv ca, rv ra, .val (.int 3), .unset, .unset] [(.int 1), (.int 3)]) (fun _ k => XS.iconst X0.here hx rfl (hb hby d3_6) k) ?_
  refine own_S (mkF m 8 #[rv ca, rv ra, .val (.int 3), .unset, .unset] [(.int 4)]) (fun _ k => XS.iadd X0.here hx rfl (hb hby d3_7) rfl k) ?_
  obtain ⟨T1, h1, cA1, X1, e1, E1, A1, st1⟩ := newP X0 hx hZ (own_g hw (i := 0) rfl) e0 (g := (mkF m 8 #[rv ca, rv ra, .val (.int 3), .unset, .unset] [(.int 4)])) rfl (hb hby d3_8) rfl (by decide) (cap := 4) (by decide) (by decide) (by decide) (by decide)
  obtain ⟨rr, g1⟩ : ∃ z, z = h0.size := ⟨_, rfl⟩
  rw [← g1] at A1 st1
  have n2 : ca ≠ rr := Nat.ne_of_lt (Nat.lt_of_lt_of_eq P0.lt g1.symm)
  have n3 : ra ≠ rr := Nat.ne_of_lt (Nat.lt_of_lt_of_eq P1.lt g1.symm)
  have ge_rr : n0 ≤ rr := Nat.le_trans Z0 (Nat.le_of_eq g1.symm)
  have fr_rr : h0.size ≤ rr := Nat.le_trans (Keep.refl h0 []).1 (Nat.le_of_eq g1.symm)
  have K1 : Keep h0 h1 [] := (Keep.refl _ _).ext E1
  have F4 := P0.ext E1
  have F5 := P1.ext E1
  have Z1 : n0 ≤ h1.size := Nat.le_trans Z0 E1.1
  have F6 : own_Ar Z h1 rr cA1 .int [(.int (0 : Int32)), (.int (0 : Int32)), (.int (0 : Int32)), (.int (0 : Int32))] := own_Ar.new A1 rfl
  refine own_S (mkF m 10 #[rv ca, rv ra, .val (.int 3), .unset, .unset] [(.ref rr)]) st1 ?_
  refine own_S (mkF m 11 #[rv ca, rv ra, .val (.int 3), rv rr, .unset] []) (fun _ k => XS.astoreN X1.here hx rfl (hb hby d3_10) rfl rfl (l' := #[rv ca, rv ra, .val (.int 3), rv rr, .unset]) rfl k) ?_
  refine own_S (mkF m 12 #[rv ca, rv ra, .val (.int 3), rv rr, .unset] [(.int 0)]) (fun _ k => XS.iconst X1.here hx rfl (hb hby d3_11) k) ?_
  refine own_S (mkF m 14 #[rv ca, rv ra, .val (.int 3), rv rr, .val (.int 0)] []) (fun _ k => XS.istore X1.here hx rfl (hb hby d3_12) rfl (l' := #[rv ca, rv ra, .val (.int 3), rv rr, .val (.int 0)]) rfl k) ?_
  refine own_S (mkF m 16 #[rv ca, rv ra, .val (.int 3), rv rr, .val (.int 0)] [(.int 0)]) (fun _ k => XS.iload X1.here hx rfl (hb hby d3_14) rfl k) ?_
  refine own_S (mkF m 17 #[rv ca, rv ra, .val (.int 3), rv rr, .val (.int 0)] [(.int 3), (.int 0)]) (fun _ k => XS.iloadN X1.here hx rfl (hb hby d3_16) rfl k) ?_
  have hc7 : ¬ ((3 : Int32) < (0 : Int32)) := by decide
  refine own_S (mkF m 20 #[rv ca, rv ra, .val (.int 3), rv rr, .val (.int 0)] []) (fun _ k => XS.icmpNo X1.here hx rfl (hb hby d3_17) rfl (flt hc7).2.2.1 k) ?_
  refine own_S (mkF m 21 #[rv ca, rv ra, .val (.int 3), rv rr, .val (.int 0)] [(.ref rr)]) (fun _ k => XS.aloadN X1.here hx rfl (hb hby d3_20) rfl rfl k) ?_
  refine own_S (mkF m 23 #[rv ca, rv ra, .val (.int 3), rv rr, .val (.int 0)] [(.int 0), (.ref rr)]) (fun _ k => XS.iload X1.here hx rfl (hb hby d3_21) rfl k) ?_
  refine own_S (mkF m 24 #[rv ca, rv ra, .val (.int 3), rv rr, .val (.int 0)] [(.ref ra), (.int 0), (.ref rr)]) (fun _ k => XS.aloadN X1.here hx rfl (hb hby d3_23) rfl rfl k) ?_
  refine own_S (mkF m 25 #[rv ca, rv ra, .val (.int 3), rv rr, .val (.int 0)] [(.ref ca), (.ref ra), (.int 0), (.ref rr)]) (fun _ k => XS.aloadN X1.here hx rfl (hb hby d3_24) rfl rfl k) ?_
  refine own_S (mkF m 27 #[rv ca, rv ra, .val (.int 3), rv rr, .val (.int 0)] [(.int 0), (.ref ca), (.ref ra), (.int 0), (.ref rr)]) (fun _ k => XS.iload X1.here hx rfl (hb hby d3_25) rfl k) ?_
  refine own_S (mkF m 28 #[rv ca, rv ra, .val (.int 3), rv rr, .val (.int 0)] [(.int 0), (.ref ra), (.int 0), (.ref rr)]) (fun _ k => own_ldI X1 hx hZ e1 F4 (by decide) rfl (g := (mkF m 27 #[rv ca, rv ra, .val (.int 3), rv rr, .val (.int 0)] [(.int 0), (.ref ca), (.ref ra), (.int 0), (.ref rr)])) rfl rfl (hb hby d3_27) _ k) ?_
  refine own_S (mkF m 29 #[rv ca, rv ra, .val (.int 3), rv rr, .val (.int 0)] [(.int 0), (.int 0), (.ref rr)]) (fun _ k => own_ldI X1 hx hZ e1 F5 (by decide) rfl (g := (mkF m 28 #[rv ca, rv ra, .val (.int 3), rv rr, .val (.int 0)] [(.int 0), (.ref ra), (.int 0), (.ref rr)])) rfl rfl (hb hby d3_28) _ k) ?_
  obtain ⟨T8, h8, X8, e8, W8, AR8, st8⟩ := own_stI (j := (0 : Int32)) X1 hx hZ e1 F6 (by decide) (show (0 : Nat) < 4 from by decide) (g := (mkF m 29 #[rv ca, rv ra, .val (.int 3), rv rr, .val (.int 0)] [(.int 0), (.int 0), (.ref rr)])) rfl rfl (hb hby d3_29)
  refine own_S (mkF m 30 #[rv ca, rv ra, .val (.int 3), rv rr, .val (.int 0)] []) st8 ?_
  have F9 := F4.other W8 n2
  have F10 := F5.other W8 n3
  have F11 : own_Ar Z h8 rr cA1 .int [(.int 0), (.int (0 : Int32)), (.int (0 : Int32)), (.int (0 : Int32))] := AR8
  have N8 := Fr.snoc X8 N0 ge_rr
  have Z8 : n0 ≤ h8.size := by rw [Wr.size W8]; exact Z1
  have K8 : Keep h0 h8 [] := K1.wr W8 (Or.inr fr_rr)
  refine own_S (mkF m 33 #[rv ca, rv ra, .val (.int 3), rv rr, .val (.int 1)] []) (fun _ k => XS.iinc X8.here hx rfl (hb hby d3_30) rfl (l' := #[rv ca, rv ra, .val (.int 3), rv rr, .val (.int 1)]) rfl k) ?_
  refine own_S (mkF m 14 #[rv ca, rv ra, .val (.int 3), rv rr, .val (.int 1)] []) (fun _ k => XS.goto X8.here hx rfl (pc0 := 33) (pc' := 14) rfl (hb hby d3_33) (by decide) (by decide) k) ?_
  refine own_S (mkF m 16 #[rv ca, rv ra, .val (.int 3), rv rr, .val (.int 1)] [(.int 1)]) (fun _ k => XS.iload X8.here hx rfl (hb hby d3_14) rfl k) ?_
  refine own_S (mkF m 17 #[rv ca, rv ra, .val (.int 3), rv rr, .val (.int 1)] [(.int 3), (.int 1)]) (fun _ k => XS.iloadN X8.here hx rfl (hb hby d3_16) rfl k) ?_
  have hc12 : ¬ ((3 : Int32) < (1 : Int32)) := by decide
  refine own_S (mkF m 20 #[rv ca, rv ra, .val (.int 3), rv rr, .val (.int 1)] []) (fun _ k => XS.icmpNo X8.here hx rfl (hb hby d3_17) rfl (flt hc12).2.2.1 k) ?_
  refine own_S (mkF m 21 #[rv ca, rv ra, .val (.int 3), rv rr, .val (.int 1)] [(.ref rr)]) (fun _ k => XS.aloadN X8.here hx rfl (hb hby d3_20) rfl rfl k) ?_
  refine own_S (mkF m 23 #[rv ca, rv ra, .val (.int 3), rv rr, .val (.int 1)] [(.int 1), (.ref rr)]) (fun _ k => XS.iload X8.here hx rfl (hb hby d3_21) rfl k) ?_
  refine own_S (mkF m 24 #[rv ca, rv ra, .val (.int 3), rv rr, .val (.int 1)] [(.ref ra), (.int 1), (.ref rr)]) (fun _ k => XS.aloadN X8.here hx rfl (hb hby d3_23) rfl rfl k) ?_
  refine own_S (mkF m 25 #[rv ca, rv ra, .val (.int 3), rv rr, .val (.int 1)] [(.ref ca), (.ref ra), (.int 1), (.ref rr)]) (fun _ k => XS.aloadN X8.here hx rfl (hb hby d3_24) rfl rfl k) ?_
  refine own_S (mkF m 27 #[rv ca, rv ra, .val (.int 3), rv rr, .val (.int 1)] [(.int 1), (.ref ca), (.ref ra), (.int 1), (.ref rr)]) (fun _ k => XS.iload X8.here hx rfl (hb hby d3_25) rfl k) ?_
  refine own_S (mkF m 28 #[rv ca, rv ra, .val (.int 3), rv rr, .val (.int 1)] [(.int x1), (.ref ra), (.int 1), (.ref rr)]) (fun _ k => own_ldI X8 hx hZ e8 F9 (by decide) rfl (g := (mkF m 27 #[rv ca, rv ra, .val (.int 3), rv rr, .val (.int 1)] [(.int 1), (.ref ca), (.ref ra), (.int 1), (.ref rr)])) rfl rfl (hb hby d3_27) _ k) ?_
  refine own_S (mkF m 29 #[rv ca, rv ra, .val (.int 3), rv rr, .val (.int 1)] [(.int y1), (.int 1), (.ref rr)]) (fun _ k => own_ldI X8 hx hZ e8 F10 hnx1 hvx1 (g := (mkF m 28 #[rv ca, rv ra, .val (.int 3), rv rr, .val (.int 1)] [(.int x1), (.ref ra), (.int 1), (.ref rr)])) rfl rfl (hb hby d3_28) _ k) ?_
  obtain ⟨T13, h13, X13, e13, W13, AR13, st13⟩ := own_stI (j := (1 : Int32)) X8 hx hZ e8 F11 (by decide) (show (1 : Nat) < 4 from by decide) (g := (mkF m 29 #[rv ca, rv ra, .val (.int 3), rv rr, .val (.int 1)] [(.int y1), (.int 1), (.ref rr)])) rfl rfl (hb hby d3_29)
  refine own_S (mkF m 30 #[rv ca, rv ra, .val (.int 3), rv rr, .val (.int 1)] []) st13 ?_
  have F14 := F9.other W13 n2
  have F15 := F10.other W13 n3
  have F16 : own_Ar Z h13 rr cA1 .int [(.int 0), (.int y1), (.int (0 : Int32)), (.int (0 : Int32))] := AR13
  have N13 := Fr.snoc X13 N8 ge_rr
  have Z13 : n0 ≤ h13.size := by rw [Wr.size W13]; exact Z8
  have K13 : Keep h0 h13 [] := K8.wr W13 (Or.inr fr_rr)
  refine own_S (mkF m 33 #[rv ca, rv ra, .val (.int 3), rv rr, .val (.int 2)] []) (fun _ k => XS.iinc X13.here hx rfl (hb hby d3_30) rfl (l' := #[rv ca, rv ra, .val (.int 3), rv rr, .val (.int 2)]) rfl k) ?_
  refine own_S (mkF m 14 #[rv ca, rv ra, .val (.int 3), rv rr, .val (.int 2)] []) (fun _ k => XS.goto X13.here hx rfl (pc0 := 33) (pc' := 14) rfl (hb hby d3_33) (by decide) (by decide) k) ?_
  refine own_S (mkF m 16 #[rv ca, rv ra, .val (.int 3), rv rr, .val (.int 2)] [(.int 2)]) (fun _ k => XS.iload X13.here hx rfl (hb hby d3_14) rfl k) ?_
  refine own_S (mkF m 17 #[rv ca, rv ra, .val (.int 3), rv rr, .val (.int 2)] [(.int 3), (.int 2)]) (fun _ k => XS.iloadN X13.here hx rfl (hb hby d3_16) rfl k) ?_
  have hc17 : ¬ ((3 : Int32) < (2 : Int32)) := by decide
  refine own_S (mkF m 20 #[rv ca, rv ra, .val (.int 3), rv rr, .val (.int 2)] []) (fun _ k => XS.icmpNo X13.here hx rfl (hb hby d3_17) rfl (flt hc17).2.2.1 k) ?_
  refine own_S (mkF m 21 #[rv ca, rv ra, .val (.int 3), rv rr, .val (.int 2)] [(.ref rr)]) (fun _ k => XS.aloadN X13.here hx rfl (hb hby d3_20) rfl rfl k) ?_
  refine own_S (mkF m 23 #[rv ca, rv ra, .val (.int 3), rv rr, .val (.int 2)] [(.int 2), (.ref rr)]) (fun _ k => XS.iload X13.here hx rfl (hb hby d3_21) rfl k) ?_
  refine own_S (mkF m 24 #[rv ca, rv ra, .val (.int 3), rv rr, .val (.int 2)] [(.ref ra), (.int 2), (.ref rr)]) (fun _ k => XS.aloadN X13.here hx rfl (hb hby d3_23) rfl rfl k) ?_
  refine own_S (mkF m 25 #[rv ca, rv ra, .val (.int 3), rv rr, .val (.int 2)] [(.ref ca), (.ref ra), (.int 2), (.ref rr)]) (fun _ k => XS.aloadN X13.here hx rfl (hb hby d3_24) rfl rfl k) ?_
  refine own_S (mkF m 27 #[rv ca, rv ra, .val (.int 3), rv rr, .val (.int 2)] [(.int 2), (.ref ca), (.ref ra), (.int 2), (.ref rr)]) (fun _ k => XS.iload X13.here hx rfl (hb hby d3_25) rfl k) ?_
  refine own_S (mkF m 28 #[rv ca, rv ra, .val (.int 3), rv rr, .val (.int 2)] [(.int x2), (.ref ra), (.int 2), (.ref rr)]) (fun _ k => own_ldI X13 hx hZ e13 F14 (by decide) rfl (g := (mkF m 27 #[rv ca, rv ra, .val (.int 3), rv rr, .val (.int 2)] [(.int 2), (.ref ca), (.ref ra), (.int 2), (.ref rr)])) rfl rfl (hb hby d3_27) _ k) ?_
  refine own_S (mkF m 29 #[rv ca, rv ra, .val (.int 3), rv rr, .val (.int 2)] [(.int y2), (.int 2), (.ref rr)]) (fun _ k => own_ldI X13 hx hZ e13 F15 hnx2 hvx2 (g := (mkF m 28 #[rv ca, rv ra, .val (.int 3), rv rr, .val (.int 2)] [(.int x2), (.ref ra), (.int 2), (.ref rr)])) rfl rfl (hb hby d3_28) _ k) ?_
  obtain ⟨T18, h18, X18, e18, W18, AR18, st18⟩ := own_stI (j := (2 : Int32)) X13 hx hZ e13 F16 (by decide) (show (2 : Nat) < 4 from by decide) (g := (mkF m 29 #[rv ca, rv ra, .val (.int 3), rv rr, .val (.int 2)] [(.int y2), (.int 2), (.ref rr)])) rfl rfl (hb hby d3_29)
  refine own_S (mkF m 30 #[rv ca, rv ra, .val (.int 3), rv rr, .val (.int 2)] []) st18 ?_
  have F19 := F14.other W18 n2
  have F20 := F15.other W18 n3
  have F21 : own_Ar Z h18 rr cA1 .int [(.int 0), (.int y1), (.int y2), (.int (0 : Int32))] := AR18
  have N18 := Fr.snoc X18 N13 ge_rr
  have Z18 : n0 ≤ h18.size := by rw [Wr.size W18]; exact Z13
  have K18 : Keep h0 h18 [] := K13.wr W18 (Or.inr fr_rr)
  refine own_S (mkF m 33 #[rv ca, rv ra, .val (.int 3), rv rr, .val (.int 3)] []) (fun _ k => XS.iinc X18.here hx rfl (hb hby d3_30) rfl (l' := #[rv ca, rv ra, .val (.int 3), rv rr, .val (.int 3)]) rfl k) ?_
  refine own_S (mkF m 14 #[rv ca, rv ra, .val (.int 3), rv rr, .val (.int 3)] []) (fun _ k => XS.goto X18.here hx rfl (pc0 := 33) (pc' := 14) rfl (hb hby d3_33) (by decide) (by decide) k) ?_
  refine own_S (mkF m 16 #[rv ca, rv ra, .val (.int 3), rv rr, .val (.int 3)] [(.int 3)]) (fun _ k => XS.iload X18.here hx rfl (hb hby d3_14) rfl k) ?_
  refine own_S (mkF m 17 #[rv ca, rv ra, .val (.int 3), rv rr, .val (.int 3)] [(.int 3), (.int 3)]) (fun _ k => XS.iloadN X18.here hx rfl (hb hby d3_16) rfl k) ?_
  have hc22 : ¬ ((3 : Int32) < (3 : Int32)) := by decide
  refine own_S (mkF m 20 #[rv ca, rv ra, .val (.int 3), rv rr, .val (.int 3)] []) (fun _ k => XS.icmpNo X18.here hx rfl (hb hby d3_17) rfl (flt hc22).2.2.1 k) ?_
  refine own_S (mkF m 21 #[rv ca, rv ra, .val (.int 3), rv rr, .val (.int 3)] [(.ref rr)]) (fun _ k => XS.aloadN X18.here hx rfl (hb hby d3_20) rfl rfl k) ?_
  refine own_S (mkF m 23 #[rv ca, rv ra, .val (.int 3), rv rr, .val (.int 3)] [(.int 3), (.ref rr)]) (fun _ k => XS.iload X18.here hx rfl (hb hby d3_21) rfl k) ?_
  refine own_S (mkF m 24 #[rv ca, rv ra, .val (.int 3), rv rr, .val (.int 3)] [(.ref ra), (.int 3), (.ref rr)]) (fun _ k => XS.aloadN X18.here hx rfl (hb hby d3_23) rfl rfl k) ?_
  refine own_S (mkF m 25 #[rv ca, rv ra, .val (.int 3), rv rr, .val (.int 3)] [(.ref ca), (.ref ra), (.int 3), (.ref rr)]) (fun _ k => XS.aloadN X18.here hx rfl (hb hby d3_24) rfl rfl k) ?_
  refine own_S (mkF m 27 #[rv ca, rv ra, .val (.int 3), rv rr, .val (.int 3)] [(.int 3), (.ref ca), (.ref ra), (.int 3), (.ref rr)]) (fun _ k => XS.iload X18.here hx rfl (hb hby d3_25) rfl k) ?_
  refine own_S (mkF m 28 #[rv ca, rv ra, .val (.int 3), rv rr, .val (.int 3)] [(.int 6), (.ref ra), (.int 3), (.ref rr)]) (fun _ k => own_ldI X18 hx hZ e18 F19 (by decide) rfl (g := (mkF m 27 #[rv ca, rv ra, .val (.int 3), rv rr, .val (.int 3)] [(.int 3), (.ref ca), (.ref ra), (.int 3), (.ref rr)])) rfl rfl (hb hby d3_27) _ k) ?_
  refine own_S (mkF m 29 #[rv ca, rv ra, .val (.int 3), rv rr, .val (.int 3)] [(.int r6), (.int 3), (.ref rr)]) (fun _ k => own_ldI X18 hx hZ e18 F20 (by decide) rfl (g := (mkF m 28 #[rv ca, rv ra, .val (.int 3), rv rr, .val (.int 3)] [(.int 6), (.ref ra), (.int 3), (.ref rr)])) rfl rfl (hb hby d3_28) _ k) ?_
  obtain ⟨T23, h23, X23, e23, W23, AR23, st23⟩ := own_stI (j := (3 : Int32)) X18 hx hZ e18 F21 (by decide) (show (3 : Nat) < 4 from by decide) (g := (mkF m 29 #[rv ca, rv ra, .val (.int 3), rv rr, .val (.int 3)] [(.int r6), (.int 3), (.ref rr)])) rfl rfl (hb hby d3_29)
  refine own_S (mkF m 30 #[rv ca, rv ra, .val (.int 3), rv rr, .val (.int 3)] []) st23 ?_
  have F24 := F19.other W23 n2
  have F25 := F20.other W23 n3
  have F26 : own_Ar Z h23 rr cA1 .int [(.int 0), (.int y1), (.int y2), (.int r6)] := AR23
  have N23 := Fr.snoc X23 N18 ge_rr
  have Z23 : n0 ≤ h23.size := by rw [Wr.size W23]; exact Z18
  have K23 : Keep h0 h23 [] := K18.wr W23 (Or.inr fr_rr)
  refine own_S (mkF m 33 #[rv ca, rv ra, .val (.int 3), rv rr, .val (.int 4)] []) (fun _ k => XS.iinc X23.here hx rfl (hb hby d3_30) rfl (l' := #[rv ca, rv ra, .val (.int 3), rv rr, .val (.int 4)]) rfl k) ?_
  refine own_S (mkF m 14 #[rv ca, rv ra, .val (.int 3), rv rr, .val (.int 4)] []) (fun _ k => XS.goto X23.here hx rfl (pc0 := 33) (pc' := 14) rfl (hb hby d3_33) (by decide) (by decide) k) ?_
  refine own_S (mkF m 16 #[rv ca, rv ra, .val (.int 3), rv rr, .val (.int 4)] [(.int 4)]) (fun _ k => XS.iload X23.here hx rfl (hb hby d3_14) rfl k) ?_
  refine own_S (mkF m 17 #[rv ca, rv ra, .val (.int 3), rv rr, .val (.int 4)] [(.int 3), (.int 4)]) (fun _ k => XS.iloadN X23.here hx rfl (hb hby d3_16) rfl k) ?_
  have hc27 : (3 : Int32) < (4 : Int32) := by decide
  refine own_S (mkF m 36 #[rv ca, rv ra, .val (.int 3), rv rr, .val (.int 4)] []) (fun _ k => XS.icmpYes X23.here hx rfl (pc0 := 17) (pc' := 36) rfl (hb hby d3_17) rfl (tlt hc27).2.2.1 (by decide) (by decide) k) ?_
  refine own_S (mkF m 37 #[rv ca, rv ra, .val (.int 3), rv rr, .val (.int 4)] [(.ref rr)]) (fun _ k => XS.aloadN X23.here hx rfl (hb hby d3_36) rfl rfl k) ?_
  exact own_ret X23 hx hlk (t := (.array .int)) hret rfl (Or.inr (Or.inr (Or.inr (Or.inr ⟨rfl, rfl, rfl⟩)))) (hb hby d3_37) (by rw [e23]; exact ⟨rr, cA1, rfl, N23, K23, F26, fr_rr⟩) (by decide) (by decide)
theorem own_pd___I_I__I : parseMethodDescriptor "([I[I)[I" = some ⟨[(.array .int), (.array .int)], (some (.array .int))⟩ := by decide +kernel
def own_Qlaw (Z : State) (ln : Int32) (ca : Int32) (cb : Int32) (sh : Int32) (h0 : Heap) (n0 : Nat) (v : Option Value) (h : Heap) (L : List Loc) : Prop := v = some (.int 1) ∧ Fr n0 L ∧ True
set_option maxRecDepth 65536 in
set_option maxHeartbeats 40000000 in
theorem own_seg0 (l : Launch) (Z : State) (a0 : Array Value) (hw : ∀ d ∈ tables_1, d.before a0 Z = true) (ln : Int32) (ca : Int32) (cb : Int32) (sh : Int32) (h0 : Heap) (n0 : Nat) (p : Program) (e : Env) (s : State) (m : MethodId) (args : Array Value) (below : List Frame) (meth : Method) (c : Code) (T0 : State) (L0 : List Loc) (hh : Heap) (la : Addr) (ra : Addr) (kl : ClassId) (kr : ClassId) (l0 : Int32) (l1 : Int32) (l2 : Int32) (l3 : Int32) (l4 : Int32) (l5 : Int32) (x1 : Int32) (x2 : Int32) (lo : Int32) (hi : Int32) (hx : p.tables.exec = Jvm.exec) (hby : c.code = code) (hml : c.maxLocals = 14) (hZ : Z.Warmed39 s.vm) (hown : s.vm.findClass "com/example/accrue/accrue/exact/GraphStateRowsPinLaw" = some m.cls) (hlk : meth.locks = false) (hret : meth.sig.returnType = some .boolean) (X0 : Stand p l e room_1 s m args below meth c T0 L0 2 13) (e0 : T0.heap = hh) (N0 : Fr n0 L0) (Z0 : n0 ≤ hh.size) (P0 : own_Ar Z hh la kl .int [(.int l0), (.int l1), (.int l2), (.int l3), (.int l4), (.int l5)]) (P1 : own_Ar Z hh ra kr .int [(.int (0 : Int32)), (.int l0), (.int (l0 + l1)), (.int ((l0 + l1) + l2)), (.int (((l0 + l1) + l2) + l3)), (.int ((((l0 + l1) + l2) + l3) + l4)), (.int (((((l0 + l1) + l2) + l3) + l4) + l5))]) (G_la : n0 ≤ la) (G_ra : n0 ≤ ra) (NE_la_ra : la ≠ ra) (b_x1 : own_B7 x1) (b_lo : own_B7 lo) (b_hi : own_B7 hi) (lohi : ¬ hi < lo) :
    own_E p e below (own_K s (own_Qlaw Z ln ca cb sh h0 n0) room_1.cells room_1.slots) T0 (mkF m 194 #[iv ln, iv ca, iv cb, iv sh, rv la, rv ra, iv x1, iv x2, iv lo, iv hi, .val (.int 0), .unset, .unset, .unset] []) := by
  refine own_S (mkF m 196 #[iv ln, iv ca, iv cb, iv sh, rv la, rv ra, iv x1, iv x2, iv lo, iv hi, .val (.int 0), .unset, .unset, .unset] [(.ref ra)]) (fun _ k => XS.aload X0.here hx rfl (hb hby at_194) rfl rfl k) ?_
  refine own_S (mkF m 198 #[iv ln, iv ca, iv cb, iv sh, rv la, rv ra, iv x1, iv x2, iv lo, iv hi, .val (.int 0), .unset, rv ra, .unset] []) (fun _ k => XS.astore X0.here hx rfl (hb hby at_196) rfl rfl (l' := #[iv ln, iv ca, iv cb, iv sh, rv la, rv ra, iv x1, iv x2, iv lo, iv hi, .val (.int 0), .unset, rv ra, .unset]) rfl k) ?_
  refine own_S (mkF m 200 #[iv ln, iv ca, iv cb, iv sh, rv la, rv ra, iv x1, iv x2, iv lo, iv hi, .val (.int 0), .unset, rv ra, .unset] [(.int 0)]) (fun _ k => XS.iload X0.here hx rfl (hb hby at_198) rfl k) ?_
  have hc1 : (0 : Int32) = (0 : Int32) := by decide
  refine own_S (mkF m 203 #[iv ln, iv ca, iv cb, iv sh, rv la, rv ra, iv x1, iv x2, iv lo, iv hi, .val (.int 0), .unset, rv ra, .unset] []) (fun _ k => XS.ifNo X0.here hx rfl (hb hby at_200) rfl ((if0 _ _).trans (teq hc1).2) k) ?_
  refine own_S (mkF m 204 #[iv ln, iv ca, iv cb, iv sh, rv la, rv ra, iv x1, iv x2, iv lo, iv hi, .val (.int 0), .unset, rv ra, .unset] [(.int 1)]) (fun _ k => XS.iconst X0.here hx rfl (hb hby at_203) k) ?_
  obtain ⟨T2, h2, cA2, X2, e2, E2, A2, st2⟩ := newP X0 hx hZ (own_g hw (i := 0) rfl) e0 (g := (mkF m 204 #[iv ln, iv ca, iv cb, iv sh, rv la, rv ra, iv x1, iv x2, iv lo, iv hi, .val (.int 0), .unset, rv ra, .unset] [(.int 1)])) rfl (hb hby at_204) rfl (by decide) (cap := 1) (by decide) (by decide) (by decide) (by decide)
  obtain ⟨cs, g2⟩ : ∃ z, z = hh.size := ⟨_, rfl⟩
  rw [← g2] at A2 st2
  have n3 : la ≠ cs := Nat.ne_of_lt (Nat.lt_of_lt_of_eq P0.lt g2.symm)
  have n4 : ra ≠ cs := Nat.ne_of_lt (Nat.lt_of_lt_of_eq P1.lt g2.symm)
  have ge_cs : n0 ≤ cs := Nat.le_trans Z0 (Nat.le_of_eq g2.symm)
  have F5 := P0.ext E2
  have F6 := P1.ext E2
  have Z2 : n0 ≤ h2.size := Nat.le_trans Z0 E2.1
  have F7 : own_Ar Z h2 cs cA2 .int [(.int (0 : Int32))] := own_Ar.new A2 rfl
  refine own_S (mkF m 206 #[iv ln, iv ca, iv cb, iv sh, rv la, rv ra, iv x1, iv x2, iv lo, iv hi, .val (.int 0), .unset, rv ra, .unset] [(.ref cs)]) st2 ?_
  refine own_S (mkF m 207 #[iv ln, iv ca, iv cb, iv sh, rv la, rv ra, iv x1, iv x2, iv lo, iv hi, .val (.int 0), .unset, rv ra, .unset] [(.ref cs), (.ref cs)]) (fun _ k => XS.dup X2.here hx rfl (hb hby at_206) rfl rfl k) ?_
  refine own_S (mkF m 208 #[iv ln, iv ca, iv cb, iv sh, rv la, rv ra, iv x1, iv x2, iv lo, iv hi, .val (.int 0), .unset, rv ra, .unset] [(.int 0), (.ref cs), (.ref cs)]) (fun _ k => XS.iconst X2.here hx rfl (hb hby at_207) k) ?_
  refine own_S (mkF m 209 #[iv ln, iv ca, iv cb, iv sh, rv la, rv ra, iv x1, iv x2, iv lo, iv hi, .val (.int 0), .unset, rv ra, .unset] [(.int 0), (.int 0), (.ref cs), (.ref cs)]) (fun _ k => XS.iconst X2.here hx rfl (hb hby at_208) k) ?_
  obtain ⟨T8, h8, X8, e8, W8, AR8, st8⟩ := own_stI (j := (0 : Int32)) X2 hx hZ e2 F7 (by decide) (show (0 : Nat) < 1 from by decide) (g := (mkF m 209 #[iv ln, iv ca, iv cb, iv sh, rv la, rv ra, iv x1, iv x2, iv lo, iv hi, .val (.int 0), .unset, rv ra, .unset] [(.int 0), (.int 0), (.ref cs), (.ref cs)])) rfl rfl (hb hby at_209)
  refine own_S (mkF m 210 #[iv ln, iv ca, iv cb, iv sh, rv la, rv ra, iv x1, iv x2, iv lo, iv hi, .val (.int 0), .unset, rv ra, .unset] [(.ref cs)]) st8 ?_
  have F9 := F5.other W8 n3
  have F10 := F6.other W8 n4
  have F11 : own_Ar Z h8 cs cA2 .int [(.int 0)] := AR8
  have N8 := Fr.snoc X8 N0 ge_cs
  have Z8 : n0 ≤ h8.size := by rw [Wr.size W8]; exact Z2
  refine own_S (mkF m 212 #[iv ln, iv ca, iv cb, iv sh, rv la, rv ra, iv x1, iv x2, iv lo, iv hi, .val (.int 0), rv cs, rv ra, .unset] []) (fun _ k => XS.astore X8.here hx rfl (hb hby at_210) rfl rfl (l' := #[iv ln, iv ca, iv cb, iv sh, rv la, rv ra, iv x1, iv x2, iv lo, iv hi, .val (.int 0), rv cs, rv ra, .unset]) rfl k) ?_
  refine own_S (mkF m 213 #[iv ln, iv ca, iv cb, iv sh, rv la, rv ra, iv x1, iv x2, iv lo, iv hi, .val (.int 0), rv cs, rv ra, .unset] [(.int 1)]) (fun _ k => XS.iconst X8.here hx rfl (hb hby at_212) k) ?_
  obtain ⟨T12, h12, cA12, X12, e12, E12, A12, st12⟩ := newP X8 hx hZ (own_g hw (i := 0) rfl) e8 (g := (mkF m 213 #[iv ln, iv ca, iv cb, iv sh, rv la, rv ra, iv x1, iv x2, iv lo, iv hi, .val (.int 0), rv cs, rv ra, .unset] [(.int 1)])) rfl (hb hby at_213) rfl (by decide) (cap := 1) (by decide) (by decide) (by decide) (by decide)
  obtain ⟨rs, g12⟩ : ∃ z, z = h8.size := ⟨_, rfl⟩
  rw [← g12] at A12 st12
  have n13 : la ≠ rs := Nat.ne_of_lt (Nat.lt_of_lt_of_eq F9.lt g12.symm)
  have n14 : ra ≠ rs := Nat.ne_of_lt (Nat.lt_of_lt_of_eq F10.lt g12.symm)
  have n15 : cs ≠ rs := Nat.ne_of_lt (Nat.lt_of_lt_of_eq F11.lt g12.symm)
  have ge_rs : n0 ≤ rs := Nat.le_trans Z8 (Nat.le_of_eq g12.symm)
  have F16 := F9.ext E12
  have F17 := F10.ext E12
  have F18 := F11.ext E12
  have Z12 : n0 ≤ h12.size := Nat.le_trans Z8 E12.1
  have F19 : own_Ar Z h12 rs cA12 .int [(.int (0 : Int32))] := own_Ar.new A12 rfl
  refine own_S (mkF m 215 #[iv ln, iv ca, iv cb, iv sh, rv la, rv ra, iv x1, iv x2, iv lo, iv hi, .val (.int 0), rv cs, rv ra, .unset] [(.ref rs)]) st12 ?_
  refine own_S (mkF m 216 #[iv ln, iv ca, iv cb, iv sh, rv la, rv ra, iv x1, iv x2, iv lo, iv hi, .val (.int 0), rv cs, rv ra, .unset] [(.ref rs), (.ref rs)]) (fun _ k => XS.dup X12.here hx rfl (hb hby at_215) rfl rfl k) ?_
  refine own_S (mkF m 217 #[iv ln, iv ca, iv cb, iv sh, rv la, rv ra, iv x1, iv x2, iv lo, iv hi, .val (.int 0), rv cs, rv ra, .unset] [(.int 0), (.ref rs), (.ref rs)]) (fun _ k => XS.iconst X12.here hx rfl (hb hby at_216) k) ?_
  refine own_S (mkF m 218 #[iv ln, iv ca, iv cb, iv sh, rv la, rv ra, iv x1, iv x2, iv lo, iv hi, .val (.int 0), rv cs, rv ra, .unset] [(.int 0), (.int 0), (.ref rs), (.ref rs)]) (fun _ k => XS.iconst X12.here hx rfl (hb hby at_217) k) ?_
  obtain ⟨T20, h20, X20, e20, W20, AR20, st20⟩ := own_stI (j := (0 : Int32)) X12 hx hZ e12 F19 (by decide) (show (0 : Nat) < 1 from by decide) (g := (mkF m 218 #[iv ln, iv ca, iv cb, iv sh, rv la, rv ra, iv x1, iv x2, iv lo, iv hi, .val (.int 0), rv cs, rv ra, .unset] [(.int 0), (.int 0), (.ref rs), (.ref rs)])) rfl rfl (hb hby at_218)
  refine own_S (mkF m 219 #[iv ln, iv ca, iv cb, iv sh, rv la, rv ra, iv x1, iv x2, iv lo, iv hi, .val (.int 0), rv cs, rv ra, .unset] [(.ref rs)]) st20 ?_
  have F21 := F16.other W20 n13
  have F22 := F17.other W20 n14
  have F23 := F18.other W20 n15
  have F24 : own_Ar Z h20 rs cA12 .int [(.int 0)] := AR20
  have N20 := Fr.snoc X20 N8 ge_rs
  have Z20 : n0 ≤ h20.size := by rw [Wr.size W20]; exact Z12
  refine own_S (mkF m 221 #[iv ln, iv ca, iv cb, iv sh, rv la, rv ra, iv x1, iv x2, iv lo, iv hi, .val (.int 0), rv cs, rv rs, .unset] []) (fun _ k => XS.astore X20.here hx rfl (hb hby at_219) rfl rfl (l' := #[iv ln, iv ca, iv cb, iv sh, rv la, rv ra, iv x1, iv x2, iv lo, iv hi, .val (.int 0), rv cs, rv rs, .unset]) rfl k) ?_
  refine own_S (mkF m 299 #[iv ln, iv ca, iv cb, iv sh, rv la, rv ra, iv x1, iv x2, iv lo, iv hi, .val (.int 0), rv cs, rv rs, .unset] []) (fun _ k => XS.goto X20.here hx rfl (pc0 := 221) (pc' := 299) rfl (hb hby at_221) (by decide) (by decide) k) ?_
  refine own_S (mkF m 301 #[iv ln, iv ca, iv cb, iv sh, rv la, rv ra, iv x1, iv x2, iv lo, iv hi, .val (.int 0), rv cs, rv rs, .unset] [(.ref cs)]) (fun _ k => XS.aload X20.here hx rfl (hb hby at_299) rfl rfl k) ?_
  refine own_S (mkF m 303 #[iv ln, iv ca, iv cb, iv sh, rv la, rv ra, iv x1, iv x2, iv lo, iv hi, .val (.int 0), rv cs, rv rs, .unset] [(.ref rs), (.ref cs)]) (fun _ k => XS.aload X20.here hx rfl (hb hby at_301) rfl rfl k) ?_
  obtain ⟨_, _, ⟨T25, L25, k25, n25⟩, -, X25, ⟨Lc25, hQ25, l25, y25, z25⟩, st25⟩ := Jvm.LawKit.callS X20 hx (y := own_y3) hown (mvT hZ (own_g hw (i := 9) rfl)) (mvT hZ (own_g hw (i := 10) rfl)) (mvT hZ (own_g hw (i := 11) rfl)) (mvT hZ (own_g hw (i := 12) rfl)) (by decide) (backOf (W := 0) (own_rmsr0 l Z a0 hw [] (cs) (rs) (cA2) (cA12) h20 n0 Z20 F23 F24) hZ (own_g hw (i := 12) rfl) (own_g hw (i := 11) rfl) (by decide) (by decide)) (g := (mkF m 303 #[iv ln, iv ca, iv cb, iv sh, rv la, rv ra, iv x1, iv x2, iv lo, iv hi, .val (.int 0), rv cs, rv rs, .unset] [(.ref rs), (.ref cs)])) rfl (by rw [hml]; rfl) (argsL := [(.ref cs), (.ref rs)]) (rest := []) (lenOf own_pd___I_I__I rfl) rfl (by show 2 * 0 + _ ≤ _; exact Nat.le_of_eq rfl) (hb hby at_303) (fun _ _ => ⟨rfl, e20, (by decide : 4 + 1 ≤ _), (by decide : 15 + 1 ≤ _)⟩)
  dsimp only [Pt.U, Pt.locs, Pt.cells, Pt.slots] at X25 l25 y25 z25 st25 hQ25
  subst l25 y25 z25
  obtain ⟨rr, kx, rfl, N25q, K25q, F26, pp27⟩ := hQ25
  have N25 := Fr.app N20 N25q
  refine own_S (mkF m 306 #[iv ln, iv ca, iv cb, iv sh, rv la, rv ra, iv x1, iv x2, iv lo, iv hi, .val (.int 0), rv cs, rv rs, .unset] [(.ref rr)]) (fun _ k => st25 _ k) ?_
  have n28 : la ≠ rr := Nat.ne_of_lt (Nat.lt_of_lt_of_le F21.lt pp27)
  have n29 : ra ≠ rr := Nat.ne_of_lt (Nat.lt_of_lt_of_le F22.lt pp27)
  have n30 : cs ≠ rr := Nat.ne_of_lt (Nat.lt_of_lt_of_le F23.lt pp27)
  have n31 : rs ≠ rr := Nat.ne_of_lt (Nat.lt_of_lt_of_le F24.lt pp27)
  have ge_rr : n0 ≤ rr := Nat.le_trans Z20 pp27
  have F32 := F21.keep K25q nin0
  have F33 := F22.keep K25q nin0
  have F34 := F23.keep K25q nin0
  have F35 := F24.keep K25q nin0
  have Z25 : n0 ≤ T25.heap.size := Nat.le_trans Z20 K25q.1
  refine own_S (mkF m 308 #[iv ln, iv ca, iv cb, iv sh, rv la, rv ra, iv x1, iv x2, iv lo, iv hi, .val (.int 0), rv cs, rv rs, rv rr] []) (fun _ k => XS.astore X25.here hx rfl (hb hby at_306) rfl rfl (l' := #[iv ln, iv ca, iv cb, iv sh, rv la, rv ra, iv x1, iv x2, iv lo, iv hi, .val (.int 0), rv cs, rv rs, rv rr]) rfl k) ?_
  refine own_S (mkF m 310 #[iv ln, iv ca, iv cb, iv sh, rv la, rv ra, iv x1, iv x2, iv lo, iv hi, .val (.int 0), rv cs, rv rs, rv rr] [(.ref rr)]) (fun _ k => XS.aload X25.here hx rfl (hb hby at_308) rfl rfl k) ?_
  refine own_S (mkF m 311 #[iv ln, iv ca, iv cb, iv sh, rv la, rv ra, iv x1, iv x2, iv lo, iv hi, .val (.int 0), rv cs, rv rs, rv rr] [(.int 1)]) (fun _ k => own_alen X25 hx hZ rfl F26 (g := (mkF m 310 #[iv ln, iv ca, iv cb, iv sh, rv la, rv ra, iv x1, iv x2, iv lo, iv hi, .val (.int 0), rv cs, rv rs, rv rr] [(.ref rr)])) rfl rfl (hb hby at_310) _ k) ?_
  refine own_S (mkF m 313 #[iv ln, iv ca, iv cb, iv sh, rv la, rv ra, iv x1, iv x2, iv lo, iv hi, .val (.int 0), rv cs, rv rs, rv rr] [(.int 0), (.int 1)]) (fun _ k => XS.iload X25.here hx rfl (hb hby at_311) rfl k) ?_
  refine own_S (mkF m 314 #[iv ln, iv ca, iv cb, iv sh, rv la, rv ra, iv x1, iv x2, iv lo, iv hi, .val (.int 0), rv cs, rv rs, rv rr] [(.int 1), (.int 0), (.int 1)]) (fun _ k => XS.iconst X25.here hx rfl (hb hby at_313) k) ?_
  refine own_S (mkF m 315 #[iv ln, iv ca, iv cb, iv sh, rv la, rv ra, iv x1, iv x2, iv lo, iv hi, .val (.int 0), rv cs, rv rs, rv rr] [(.int 1), (.int 1)]) (fun _ k => XS.iadd X25.here hx rfl (hb hby at_314) rfl k) ?_
  have hc36 : (1 : Int32) = (1 : Int32) := by decide
  refine own_S (mkF m 320 #[iv ln, iv ca, iv cb, iv sh, rv la, rv ra, iv x1, iv x2, iv lo, iv hi, .val (.int 0), rv cs, rv rs, rv rr] []) (fun _ k => XS.icmpYes X25.here hx rfl (pc0 := 315) (pc' := 320) rfl (hb hby at_315) rfl (teq hc36).1 (by decide) (by decide) k) ?_
  refine own_S (mkF m 322 #[iv ln, iv ca, iv cb, iv sh, rv la, rv ra, iv x1, iv x2, iv lo, iv hi, .val (.int 0), rv cs, rv rs, rv rr] [(.ref rr)]) (fun _ k => XS.aload X25.here hx rfl (hb hby at_320) rfl rfl k) ?_
  refine own_S (mkF m 323 #[iv ln, iv ca, iv cb, iv sh, rv la, rv ra, iv x1, iv x2, iv lo, iv hi, .val (.int 0), rv cs, rv rs, rv rr] [(.int 0), (.ref rr)]) (fun _ k => XS.iconst X25.here hx rfl (hb hby at_322) k) ?_
  refine own_S (mkF m 324 #[iv ln, iv ca, iv cb, iv sh, rv la, rv ra, iv x1, iv x2, iv lo, iv hi, .val (.int 0), rv cs, rv rs, rv rr] [(.int 0)]) (fun _ k => own_ldI X25 hx hZ rfl F26 (by decide) rfl (g := (mkF m 323 #[iv ln, iv ca, iv cb, iv sh, rv la, rv ra, iv x1, iv x2, iv lo, iv hi, .val (.int 0), rv cs, rv rs, rv rr] [(.int 0), (.ref rr)])) rfl rfl (hb hby at_323) _ k) ?_
  have hc37 : (0 : Int32) = (0 : Int32) := by decide
  refine own_S (mkF m 329 #[iv ln, iv ca, iv cb, iv sh, rv la, rv ra, iv x1, iv x2, iv lo, iv hi, .val (.int 0), rv cs, rv rs, rv rr] []) (fun _ k => XS.ifYes X25.here hx rfl (pc0 := 324) (pc' := 329) rfl (hb hby at_324) rfl ((if0 _ _).trans (teq hc37).1) (by decide) (by decide) k) ?_
  refine own_S (mkF m 331 #[iv ln, iv ca, iv cb, iv sh, rv la, rv ra, iv x1, iv x2, iv lo, iv hi, .val (.int 0), rv cs, rv rs, rv rr] [(.int 0)]) (fun _ k => XS.iload X25.here hx rfl (hb hby at_329) rfl k) ?_
  refine own_S (mkF m 332 #[iv ln, iv ca, iv cb, iv sh, rv la, rv ra, iv x1, iv x2, iv lo, iv hi, .val (.int 0), rv cs, rv rs, rv rr] [(.int 1), (.int 0)]) (fun _ k => XS.iconst X25.here hx rfl (hb hby at_331) k) ?_
  have hc38 : (0 : Int32) < (1 : Int32) := by decide
  refine own_S (mkF m 362 #[iv ln, iv ca, iv cb, iv sh, rv la, rv ra, iv x1, iv x2, iv lo, iv hi, .val (.int 0), rv cs, rv rs, rv rr] []) (fun _ k => XS.icmpYes X25.here hx rfl (pc0 := 332) (pc' := 362) rfl (hb hby at_332) rfl (tlt hc38).1 (by decide) (by decide) k) ?_
  refine own_S (mkF m 364 #[iv ln, iv ca, iv cb, iv sh, rv la, rv ra, iv x1, iv x2, iv lo, iv hi, .val (.int 0), rv cs, rv rs, rv rr] [(.int 0)]) (fun _ k => XS.iload X25.here hx rfl (hb hby at_362) rfl k) ?_
  refine own_S (mkF m 365 #[iv ln, iv ca, iv cb, iv sh, rv la, rv ra, iv x1, iv x2, iv lo, iv hi, .val (.int 0), rv cs, rv rs, rv rr] [(.int 2), (.int 0)]) (fun _ k => XS.iconst X25.here hx rfl (hb hby at_364) k) ?_
  have hc39 : (0 : Int32) < (2 : Int32) := by decide
  refine own_S (mkF m 395 #[iv ln, iv ca, iv cb, iv sh, rv la, rv ra, iv x1, iv x2, iv lo, iv hi, .val (.int 0), rv cs, rv rs, rv rr] []) (fun _ k => XS.icmpYes X25.here hx rfl (pc0 := 365) (pc' := 395) rfl (hb hby at_365) rfl (tlt hc39).1 (by decide) (by decide) k) ?_
  refine own_S (mkF m 397 #[iv ln, iv ca, iv cb, iv sh, rv la, rv ra, iv x1, iv x2, iv lo, iv hi, .val (.int 0), rv cs, rv rs, rv rr] [(.int 0)]) (fun _ k => XS.iload X25.here hx rfl (hb hby at_395) rfl k) ?_
  refine own_S (mkF m 398 #[iv ln, iv ca, iv cb, iv sh, rv la, rv ra, iv x1, iv x2, iv lo, iv hi, .val (.int 0), rv cs, rv rs, rv rr] [(.int 3), (.int 0)]) (fun _ k => XS.iconst X25.here hx rfl (hb hby at_397) k) ?_
  have hc40 : (0 : Int32) < (3 : Int32) := by decide
  refine own_S (mkF m 428 #[iv ln, iv ca, iv cb, iv sh, rv la, rv ra, iv x1, iv x2, iv lo, iv hi, .val (.int 0), rv cs, rv rs, rv rr] []) (fun _ k => XS.icmpYes X25.here hx rfl (pc0 := 398) (pc' := 428) rfl (hb hby at_398) rfl (tlt hc40).1 (by decide) (by decide) k) ?_
  refine own_S (mkF m 429 #[iv ln, iv ca, iv cb, iv sh, rv la, rv ra, iv x1, iv x2, iv lo, iv hi, .val (.int 0), rv cs, rv rs, rv rr] [(.int 1)]) (fun _ k => XS.iconst X25.here hx rfl (hb hby at_428) k) ?_
  exact own_retN X25 hx hlk (t := .boolean) hret (by simp) (hb hby at_429) ⟨rfl, N25, trivial⟩ (by decide) (by decide)
theorem own_pd___III_I : parseMethodDescriptor "([III)I" = some ⟨[(.array .int), .int, .int], (some .int)⟩ := by decide +kernel
set_option maxRecDepth 65536 in
set_option maxHeartbeats 40000000 in
theorem own_seg1 (l : Launch) (Z : State) (a0 : Array Value) (hw : ∀ d ∈ tables_1, d.before a0 Z = true) (ln : Int32) (ca : Int32) (cb : Int32) (sh : Int32) (h0 : Heap) (n0 : Nat) (p : Program) (e : Env) (s : State) (m : MethodId) (args : Array Value) (below : List Frame) (meth : Method) (c : Code) (T0 : State) (L0 : List Loc) (hh : Heap) (la : Addr) (ra : Addr) (kl : ClassId) (kr : ClassId) (l0 : Int32) (l1 : Int32) (l2 : Int32) (l3 : Int32) (l4 : Int32) (l5 : Int32) (x1 : Int32) (x2 : Int32) (lo : Int32) (hi : Int32) (hx : p.tables.exec = Jvm.exec) (hby : c.code = code) (hml : c.maxLocals = 14) (hZ : Z.Warmed39 s.vm) (hown : s.vm.findClass "com/example/accrue/accrue/exact/GraphStateRowsPinLaw" = some m.cls) (hlk : meth.locks = false) (hret : meth.sig.returnType = some .boolean) (X0 : Stand p l e room_1 s m args below meth c T0 L0 2 13) (e0 : T0.heap = hh) (N0 : Fr n0 L0) (Z0 : n0 ≤ hh.size) (P0 : own_Ar Z hh la kl .int [(.int l0), (.int l1), (.int l2), (.int l3), (.int l4), (.int l5)]) (P1 : own_Ar Z hh ra kr .int [(.int (0 : Int32)), (.int l0), (.int (l0 + l1)), (.int ((l0 + l1) + l2)), (.int (((l0 + l1) + l2) + l3)), (.int ((((l0 + l1) + l2) + l3) + l4)), (.int (((((l0 + l1) + l2) + l3) + l4) + l5))]) (G_la : n0 ≤ la) (G_ra : n0 ≤ ra) (NE_la_ra : la ≠ ra) (b_x1 : own_B7 x1) (b_lo : own_B7 lo) (b_hi : own_B7 hi) (lohi : ¬ hi < lo) :
    own_E p e below (own_K s (own_Qlaw Z ln ca cb sh h0 n0) room_1.cells room_1.slots) T0 (mkF m 194 #[iv ln, iv ca, iv cb, iv sh, rv la, rv ra, iv x1, iv x2, iv lo, iv hi, .val (.int 1), .unset, .unset, .unset] []) := by
  refine own_S (mkF m 196 #[iv ln, iv ca, iv cb, iv sh, rv la, rv ra, iv x1, iv x2, iv lo, iv hi, .val (.int 1), .unset, .unset, .unset] [(.ref ra)]) (fun _ k => XS.aload X0.here hx rfl (hb hby at_194) rfl rfl k) ?_
  refine own_S (mkF m 198 #[iv ln, iv ca, iv cb, iv sh, rv la, rv ra, iv x1, iv x2, iv lo, iv hi, .val (.int 1), .unset, rv ra, .unset] []) (fun _ k => XS.astore X0.here hx rfl (hb hby at_196) rfl rfl (l' := #[iv ln, iv ca, iv cb, iv sh, rv la, rv ra, iv x1, iv x2, iv lo, iv hi, .val (.int 1), .unset, rv ra, .unset]) rfl k) ?_
  refine own_S (mkF m 200 #[iv ln, iv ca, iv cb, iv sh, rv la, rv ra, iv x1, iv x2, iv lo, iv hi, .val (.int 1), .unset, rv ra, .unset] [(.int 1)]) (fun _ k => XS.iload X0.here hx rfl (hb hby at_198) rfl k) ?_
  have hc1 : ¬ ((1 : Int32) = (0 : Int32)) := by decide
  refine own_S (mkF m 224 #[iv ln, iv ca, iv cb, iv sh, rv la, rv ra, iv x1, iv x2, iv lo, iv hi, .val (.int 1), .unset, rv ra, .unset] []) (fun _ k => XS.ifYes X0.here hx rfl (pc0 := 200) (pc' := 224) rfl (hb hby at_200) rfl ((if0 _ _).trans (feq hc1).2) (by decide) (by decide) k) ?_
  refine own_S (mkF m 226 #[iv ln, iv ca, iv cb, iv sh, rv la, rv ra, iv x1, iv x2, iv lo, iv hi, .val (.int 1), .unset, rv ra, .unset] [(.int 1)]) (fun _ k => XS.iload X0.here hx rfl (hb hby at_224) rfl k) ?_
  refine own_S (mkF m 227 #[iv ln, iv ca, iv cb, iv sh, rv la, rv ra, iv x1, iv x2, iv lo, iv hi, .val (.int 1), .unset, rv ra, .unset] [(.int 1), (.int 1)]) (fun _ k => XS.iconst X0.here hx rfl (hb hby at_226) k) ?_
  have hc2 : (1 : Int32) = (1 : Int32) := by decide
  refine own_S (mkF m 230 #[iv ln, iv ca, iv cb, iv sh, rv la, rv ra, iv x1, iv x2, iv lo, iv hi, .val (.int 1), .unset, rv ra, .unset] []) (fun _ k => XS.icmpNo X0.here hx rfl (hb hby at_227) rfl (teq hc2).2 k) ?_
  refine own_S (mkF m 231 #[iv ln, iv ca, iv cb, iv sh, rv la, rv ra, iv x1, iv x2, iv lo, iv hi, .val (.int 1), .unset, rv ra, .unset] [(.int 2)]) (fun _ k => XS.iconst X0.here hx rfl (hb hby at_230) k) ?_
  obtain ⟨T3, h3, cA3, X3, e3, E3, A3, st3⟩ := newP X0 hx hZ (own_g hw (i := 0) rfl) e0 (g := (mkF m 231 #[iv ln, iv ca, iv cb, iv sh, rv la, rv ra, iv x1, iv x2, iv lo, iv hi, .val (.int 1), .unset, rv ra, .unset] [(.int 2)])) rfl (hb hby at_231) rfl (by decide) (cap := 2) (by decide) (by decide) (by decide) (by decide)
  obtain ⟨cs, g3⟩ : ∃ z, z = hh.size := ⟨_, rfl⟩
  rw [← g3] at A3 st3
  have n4 : la ≠ cs := Nat.ne_of_lt (Nat.lt_of_lt_of_eq P0.lt g3.symm)
  have n5 : ra ≠ cs := Nat.ne_of_lt (Nat.lt_of_lt_of_eq P1.lt g3.symm)
  have ge_cs : n0 ≤ cs := Nat.le_trans Z0 (Nat.le_of_eq g3.symm)
  have F6 := P0.ext E3
  have F7 := P1.ext E3
  have Z3 : n0 ≤ h3.size := Nat.le_trans Z0 E3.1
  have F8 : own_Ar Z h3 cs cA3 .int [(.int (0 : Int32)), (.int (0 : Int32))] := own_Ar.new A3 rfl
  refine own_S (mkF m 233 #[iv ln, iv ca, iv cb, iv sh, rv la, rv ra, iv x1, iv x2, iv lo, iv hi, .val (.int 1), .unset, rv ra, .unset] [(.ref cs)]) st3 ?_
  refine own_S (mkF m 234 #[iv ln, iv ca, iv cb, iv sh, rv la, rv ra, iv x1, iv x2, iv lo, iv hi, .val (.int 1), .unset, rv ra, .unset] [(.ref cs), (.ref cs)]) (fun _ k => XS.dup X3.here hx rfl (hb hby at_233) rfl rfl k) ?_
  refine own_S (mkF m 235 #[iv ln, iv ca, iv cb, iv sh, rv la, rv ra, iv x1, iv x2, iv lo, iv hi, .val (.int 1), .unset, rv ra, .unset] [(.int 0), (.ref cs), (.ref cs)]) (fun _ k => XS.iconst X3.here hx rfl (hb hby at_234) k) ?_
  refine own_S (mkF m 236 #[iv ln, iv ca, iv cb, iv sh, rv la, rv ra, iv x1, iv x2, iv lo, iv hi, .val (.int 1), .unset, rv ra, .unset] [(.int 0), (.int 0), (.ref cs), (.ref cs)]) (fun _ k => XS.iconst X3.here hx rfl (hb hby at_235) k) ?_
  obtain ⟨T9, h9, X9, e9, W9, AR9, st9⟩ := own_stI (j := (0 : Int32)) X3 hx hZ e3 F8 (by decide) (show (0 : Nat) < 2 from by decide) (g := (mkF m 236 #[iv ln, iv ca, iv cb, iv sh, rv la, rv ra, iv x1, iv x2, iv lo, iv hi, .val (.int 1), .unset, rv ra, .unset] [(.int 0), (.int 0), (.ref cs), (.ref cs)])) rfl rfl (hb hby at_236)
  refine own_S (mkF m 237 #[iv ln, iv ca, iv cb, iv sh, rv la, rv ra, iv x1, iv x2, iv lo, iv hi, .val (.int 1), .unset, rv ra, .unset] [(.ref cs)]) st9 ?_
  have F10 := F6.other W9 n4
  have F11 := F7.other W9 n5
  have F12 : own_Ar Z h9 cs cA3 .int [(.int 0), (.int (0 : Int32))] := AR9
  have N9 := Fr.snoc X9 N0 ge_cs
  have Z9 : n0 ≤ h9.size := by rw [Wr.size W9]; exact Z3
  refine own_S (mkF m 238 #[iv ln, iv ca, iv cb, iv sh, rv la, rv ra, iv x1, iv x2, iv lo, iv hi, .val (.int 1), .unset, rv ra, .unset] [(.ref cs), (.ref cs)]) (fun _ k => XS.dup X9.here hx rfl (hb hby at_237) rfl rfl k) ?_
  refine own_S (mkF m 239 #[iv ln, iv ca, iv cb, iv sh, rv la, rv ra, iv x1, iv x2, iv lo, iv hi, .val (.int 1), .unset, rv ra, .unset] [(.int 1), (.ref cs), (.ref cs)]) (fun _ k => XS.iconst X9.here hx rfl (hb hby at_238) k) ?_
  refine own_S (mkF m 241 #[iv ln, iv ca, iv cb, iv sh, rv la, rv ra, iv x1, iv x2, iv lo, iv hi, .val (.int 1), .unset, rv ra, .unset] [(.int 6), (.int 1), (.ref cs), (.ref cs)]) (fun _ k => XS.bipush X9.here hx rfl (hb hby at_239) k) ?_
  obtain ⟨T13, h13, X13, e13, W13, AR13, st13⟩ := own_stI (j := (1 : Int32)) X9 hx hZ e9 F12 (by decide) (show (1 : Nat) < 2 from by decide) (g := (mkF m 241 #[iv ln, iv ca, iv cb, iv sh, rv la, rv ra, iv x1, iv x2, iv lo, iv hi, .val (.int 1), .unset, rv ra, .unset] [(.int 6), (.int 1), (.ref cs), (.ref cs)])) rfl rfl (hb hby at_241)
  refine own_S (mkF m 242 #[iv ln, iv ca, iv cb, iv sh, rv la, rv ra, iv x1, iv x2, iv lo, iv hi, .val (.int 1), .unset, rv ra, .unset] [(.ref cs)]) st13 ?_
  have F14 := F10.other W13 n4
  have F15 := F11.other W13 n5
  have F16 : own_Ar Z h13 cs cA3 .int [(.int 0), (.int 6)] := AR13
  have N13 := Fr.snoc X13 N9 ge_cs
  have Z13 : n0 ≤ h13.size := by rw [Wr.size W13]; exact Z9
  refine own_S (mkF m 244 #[iv ln, iv ca, iv cb, iv sh, rv la, rv ra, iv x1, iv x2, iv lo, iv hi, .val (.int 1), rv cs, rv ra, .unset] []) (fun _ k => XS.astore X13.here hx rfl (hb hby at_242) rfl rfl (l' := #[iv ln, iv ca, iv cb, iv sh, rv la, rv ra, iv x1, iv x2, iv lo, iv hi, .val (.int 1), rv cs, rv ra, .unset]) rfl k) ?_
  refine own_S (mkF m 299 #[iv ln, iv ca, iv cb, iv sh, rv la, rv ra, iv x1, iv x2, iv lo, iv hi, .val (.int 1), rv cs, rv ra, .unset] []) (fun _ k => XS.goto X13.here hx rfl (pc0 := 244) (pc' := 299) rfl (hb hby at_244) (by decide) (by decide) k) ?_
  refine own_S (mkF m 301 #[iv ln, iv ca, iv cb, iv sh, rv la, rv ra, iv x1, iv x2, iv lo, iv hi, .val (.int 1), rv cs, rv ra, .unset] [(.ref cs)]) (fun _ k => XS.aload X13.here hx rfl (hb hby at_299) rfl rfl k) ?_
  refine own_S (mkF m 303 #[iv ln, iv ca, iv cb, iv sh, rv la, rv ra, iv x1, iv x2, iv lo, iv hi, .val (.int 1), rv cs, rv ra, .unset] [(.ref ra), (.ref cs)]) (fun _ k => XS.aload X13.here hx rfl (hb hby at_301) rfl rfl k) ?_
  obtain ⟨_, _, ⟨T17, L17, k17, n17⟩, -, X17, ⟨Lc17, hQ17, l17, y17, z17⟩, st17⟩ := Jvm.LawKit.callS X13 hx (y := own_y3) hown (mvT hZ (own_g hw (i := 9) rfl)) (mvT hZ (own_g hw (i := 10) rfl)) (mvT hZ (own_g hw (i := 11) rfl)) (mvT hZ (own_g hw (i := 12) rfl)) (by decide) (backOf (W := 0) (own_rmsr1 l Z a0 hw [] (cs) (ra) (cA3) (kr) (l0) ((l0 + l1)) (((l0 + l1) + l2)) ((((l0 + l1) + l2) + l3)) (((((l0 + l1) + l2) + l3) + l4)) ((((((l0 + l1) + l2) + l3) + l4) + l5)) h13 n0 Z13 F16 F15) hZ (own_g hw (i := 12) rfl) (own_g hw (i := 11) rfl) (by decide) (by decide)) (g := (mkF m 303 #[iv ln, iv ca, iv cb, iv sh, rv la, rv ra, iv x1, iv x2, iv lo, iv hi, .val (.int 1), rv cs, rv ra, .unset] [(.ref ra), (.ref cs)])) rfl (by rw [hml]; rfl) (argsL := [(.ref cs), (.ref ra)]) (rest := []) (lenOf own_pd___I_I__I rfl) rfl (by show 2 * 0 + _ ≤ _; exact Nat.le_of_eq rfl) (hb hby at_303) (fun _ _ => ⟨rfl, e13, (by decide : 3 + 1 ≤ _), (by decide : 15 + 2 ≤ _)⟩)
  dsimp only [Pt.U, Pt.locs, Pt.cells, Pt.slots] at X17 l17 y17 z17 st17 hQ17
  subst l17 y17 z17
  obtain ⟨rr, kx, rfl, N17q, K17q, F18, pp19⟩ := hQ17
  have N17 := Fr.app N13 N17q
  refine own_S (mkF m 306 #[iv ln, iv ca, iv cb, iv sh, rv la, rv ra, iv x1, iv x2, iv lo, iv hi, .val (.int 1), rv cs, rv ra, .unset] [(.ref rr)]) (fun _ k => st17 _ k) ?_
  have n20 : la ≠ rr := Nat.ne_of_lt (Nat.lt_of_lt_of_le F14.lt pp19)
  have n21 : ra ≠ rr := Nat.ne_of_lt (Nat.lt_of_lt_of_le F15.lt pp19)
  have n22 : cs ≠ rr := Nat.ne_of_lt (Nat.lt_of_lt_of_le F16.lt pp19)
  have ge_rr : n0 ≤ rr := Nat.le_trans Z13 pp19
  have F23 := F14.keep K17q nin0
  have F24 := F15.keep K17q nin0
  have F25 := F16.keep K17q nin0
  have Z17 : n0 ≤ T17.heap.size := Nat.le_trans Z13 K17q.1
  refine own_S (mkF m 308 #[iv ln, iv ca, iv cb, iv sh, rv la, rv ra, iv x1, iv x2, iv lo, iv hi, .val (.int 1), rv cs, rv ra, rv rr] []) (fun _ k => XS.astore X17.here hx rfl (hb hby at_306) rfl rfl (l' := #[iv ln, iv ca, iv cb, iv sh, rv la, rv ra, iv x1, iv x2, iv lo, iv hi, .val (.int 1), rv cs, rv ra, rv rr]) rfl k) ?_
  refine own_S (mkF m 310 #[iv ln, iv ca, iv cb, iv sh, rv la, rv ra, iv x1, iv x2, iv lo, iv hi, .val (.int 1), rv cs, rv ra, rv rr] [(.ref rr)]) (fun _ k => XS.aload X17.here hx rfl (hb hby at_308) rfl rfl k) ?_
  refine own_S (mkF m 311 #[iv ln, iv ca, iv cb, iv sh, rv la, rv ra, iv x1, iv x2, iv lo, iv hi, .val (.int 1), rv cs, rv ra, rv rr] [(.int 2)]) (fun _ k => own_alen X17 hx hZ rfl F18 (g := (mkF m 310 #[iv ln, iv ca, iv cb, iv sh, rv la, rv ra, iv x1, iv x2, iv lo, iv hi, .val (.int 1), rv cs, rv ra, rv rr] [(.ref rr)])) rfl rfl (hb hby at_310) _ k) ?_
  refine own_S (mkF m 313 #[iv ln, iv ca, iv cb, iv sh, rv la, rv ra, iv x1, iv x2, iv lo, iv hi, .val (.int 1), rv cs, rv ra, rv rr] [(.int 1), (.int 2)]) (fun _ k => XS.iload X17.here hx rfl (hb hby at_311) rfl k) ?_
  refine own_S (mkF m 314 #[iv ln, iv ca, iv cb, iv sh, rv la, rv ra, iv x1, iv x2, iv lo, iv hi, .val (.int 1), rv cs, rv ra, rv rr] [(.int 1), (.int 1), (.int 2)]) (fun _ k => XS.iconst X17.here hx rfl (hb hby at_313) k) ?_
  refine own_S (mkF m 315 #[iv ln, iv ca, iv cb, iv sh, rv la, rv ra, iv x1, iv x2, iv lo, iv hi, .val (.int 1), rv cs, rv ra, rv rr] [(.int 2), (.int 2)]) (fun _ k => XS.iadd X17.here hx rfl (hb hby at_314) rfl k) ?_
  have hc26 : (2 : Int32) = (2 : Int32) := by decide
  refine own_S (mkF m 320 #[iv ln, iv ca, iv cb, iv sh, rv la, rv ra, iv x1, iv x2, iv lo, iv hi, .val (.int 1), rv cs, rv ra, rv rr] []) (fun _ k => XS.icmpYes X17.here hx rfl (pc0 := 315) (pc' := 320) rfl (hb hby at_315) rfl (teq hc26).1 (by decide) (by decide) k) ?_
  refine own_S (mkF m 322 #[iv ln, iv ca, iv cb, iv sh, rv la, rv ra, iv x1, iv x2, iv lo, iv hi, .val (.int 1), rv cs, rv ra, rv rr] [(.ref rr)]) (fun _ k => XS.aload X17.here hx rfl (hb hby at_320) rfl rfl k) ?_
  refine own_S (mkF m 323 #[iv ln, iv ca, iv cb, iv sh, rv la, rv ra, iv x1, iv x2, iv lo, iv hi, .val (.int 1), rv cs, rv ra, rv rr] [(.int 0), (.ref rr)]) (fun _ k => XS.iconst X17.here hx rfl (hb hby at_322) k) ?_
  refine own_S (mkF m 324 #[iv ln, iv ca, iv cb, iv sh, rv la, rv ra, iv x1, iv x2, iv lo, iv hi, .val (.int 1), rv cs, rv ra, rv rr] [(.int 0)]) (fun _ k => own_ldI X17 hx hZ rfl F18 (by decide) rfl (g := (mkF m 323 #[iv ln, iv ca, iv cb, iv sh, rv la, rv ra, iv x1, iv x2, iv lo, iv hi, .val (.int 1), rv cs, rv ra, rv rr] [(.int 0), (.ref rr)])) rfl rfl (hb hby at_323) _ k) ?_
  have hc27 : (0 : Int32) = (0 : Int32) := by decide
  refine own_S (mkF m 329 #[iv ln, iv ca, iv cb, iv sh, rv la, rv ra, iv x1, iv x2, iv lo, iv hi, .val (.int 1), rv cs, rv ra, rv rr] []) (fun _ k => XS.ifYes X17.here hx rfl (pc0 := 324) (pc' := 329) rfl (hb hby at_324) rfl ((if0 _ _).trans (teq hc27).1) (by decide) (by decide) k) ?_
  refine own_S (mkF m 331 #[iv ln, iv ca, iv cb, iv sh, rv la, rv ra, iv x1, iv x2, iv lo, iv hi, .val (.int 1), rv cs, rv ra, rv rr] [(.int 1)]) (fun _ k => XS.iload X17.here hx rfl (hb hby at_329) rfl k) ?_
  refine own_S (mkF m 332 #[iv ln, iv ca, iv cb, iv sh, rv la, rv ra, iv x1, iv x2, iv lo, iv hi, .val (.int 1), rv cs, rv ra, rv rr] [(.int 1), (.int 1)]) (fun _ k => XS.iconst X17.here hx rfl (hb hby at_331) k) ?_
  have hc28 : ¬ ((1 : Int32) < (1 : Int32)) := by decide
  refine own_S (mkF m 335 #[iv ln, iv ca, iv cb, iv sh, rv la, rv ra, iv x1, iv x2, iv lo, iv hi, .val (.int 1), rv cs, rv ra, rv rr] []) (fun _ k => XS.icmpNo X17.here hx rfl (hb hby at_332) rfl (flt hc28).1 k) ?_
  refine own_S (mkF m 337 #[iv ln, iv ca, iv cb, iv sh, rv la, rv ra, iv x1, iv x2, iv lo, iv hi, .val (.int 1), rv cs, rv ra, rv rr] [(.ref rr)]) (fun _ k => XS.aload X17.here hx rfl (hb hby at_335) rfl rfl k) ?_
  refine own_S (mkF m 338 #[iv ln, iv ca, iv cb, iv sh, rv la, rv ra, iv x1, iv x2, iv lo, iv hi, .val (.int 1), rv cs, rv ra, rv rr] [(.int 1), (.ref rr)]) (fun _ k => XS.iconst X17.here hx rfl (hb hby at_337) k) ?_
  refine own_S (mkF m 339 #[iv ln, iv ca, iv cb, iv sh, rv la, rv ra, iv x1, iv x2, iv lo, iv hi, .val (.int 1), rv cs, rv ra, rv rr] [(.int (((((l0 + l1) + l2) + l3) + l4) + l5))]) (fun _ k => own_ldI X17 hx hZ rfl F18 (by decide) rfl (g := (mkF m 338 #[iv ln, iv ca, iv cb, iv sh, rv la, rv ra, iv x1, iv x2, iv lo, iv hi, .val (.int 1), rv cs, rv ra, rv rr] [(.int 1), (.ref rr)])) rfl rfl (hb hby at_338) _ k) ?_
  refine own_S (mkF m 341 #[iv ln, iv ca, iv cb, iv sh, rv la, rv ra, iv x1, iv x2, iv lo, iv hi, .val (.int 1), rv cs, rv ra, rv rr] [(.ref rr), (.int (((((l0 + l1) + l2) + l3) + l4) + l5))]) (fun _ k => XS.aload X17.here hx rfl (hb hby at_339) rfl rfl k) ?_
  refine own_S (mkF m 342 #[iv ln, iv ca, iv cb, iv sh, rv la, rv ra, iv x1, iv x2, iv lo, iv hi, .val (.int 1), rv cs, rv ra, rv rr] [(.int 0), (.ref rr), (.int (((((l0 + l1) + l2) + l3) + l4) + l5))]) (fun _ k => XS.iconst X17.here hx rfl (hb hby at_341) k) ?_
  refine own_S (mkF m 343 #[iv ln, iv ca, iv cb, iv sh, rv la, rv ra, iv x1, iv x2, iv lo, iv hi, .val (.int 1), rv cs, rv ra, rv rr] [(.int 0), (.int (((((l0 + l1) + l2) + l3) + l4) + l5))]) (fun _ k => own_ldI X17 hx hZ rfl F18 (by decide) rfl (g := (mkF m 342 #[iv ln, iv ca, iv cb, iv sh, rv la, rv ra, iv x1, iv x2, iv lo, iv hi, .val (.int 1), rv cs, rv ra, rv rr] [(.int 0), (.ref rr), (.int (((((l0 + l1) + l2) + l3) + l4) + l5))])) rfl rfl (hb hby at_342) _ k) ?_
  refine own_S (mkF m 344 #[iv ln, iv ca, iv cb, iv sh, rv la, rv ra, iv x1, iv x2, iv lo, iv hi, .val (.int 1), rv cs, rv ra, rv rr] [(.int ((((((l0 + l1) + l2) + l3) + l4) + l5) - (0 : Int32)))]) (fun _ k => XS.isub X17.here hx rfl (hb hby at_343) rfl k) ?_
  refine own_S (mkF m 346 #[iv ln, iv ca, iv cb, iv sh, rv la, rv ra, iv x1, iv x2, iv lo, iv hi, .val (.int 1), rv cs, rv ra, rv rr] [(.ref la), (.int ((((((l0 + l1) + l2) + l3) + l4) + l5) - (0 : Int32)))]) (fun _ k => XS.aload X17.here hx rfl (hb hby at_344) rfl rfl k) ?_
  refine own_S (mkF m 348 #[iv ln, iv ca, iv cb, iv sh, rv la, rv ra, iv x1, iv x2, iv lo, iv hi, .val (.int 1), rv cs, rv ra, rv rr] [(.ref cs), (.ref la), (.int ((((((l0 + l1) + l2) + l3) + l4) + l5) - (0 : Int32)))]) (fun _ k => XS.aload X17.here hx rfl (hb hby at_346) rfl rfl k) ?_
  refine own_S (mkF m 349 #[iv ln, iv ca, iv cb, iv sh, rv la, rv ra, iv x1, iv x2, iv lo, iv hi, .val (.int 1), rv cs, rv ra, rv rr] [(.int 0), (.ref cs), (.ref la), (.int ((((((l0 + l1) + l2) + l3) + l4) + l5) - (0 : Int32)))]) (fun _ k => XS.iconst X17.here hx rfl (hb hby at_348) k) ?_
  refine own_S (mkF m 350 #[iv ln, iv ca, iv cb, iv sh, rv la, rv ra, iv x1, iv x2, iv lo, iv hi, .val (.int 1), rv cs, rv ra, rv rr] [(.int 0), (.ref la), (.int ((((((l0 + l1) + l2) + l3) + l4) + l5) - (0 : Int32)))]) (fun _ k => own_ldI X17 hx hZ rfl F25 (by decide) rfl (g := (mkF m 349 #[iv ln, iv ca, iv cb, iv sh, rv la, rv ra, iv x1, iv x2, iv lo, iv hi, .val (.int 1), rv cs, rv ra, rv rr] [(.int 0), (.ref cs), (.ref la), (.int ((((((l0 + l1) + l2) + l3) + l4) + l5) - (0 : Int32)))])) rfl rfl (hb hby at_349) _ k) ?_
  refine own_S (mkF m 352 #[iv ln, iv ca, iv cb, iv sh, rv la, rv ra, iv x1, iv x2, iv lo, iv hi, .val (.int 1), rv cs, rv ra, rv rr] [(.ref cs), (.int 0), (.ref la), (.int ((((((l0 + l1) + l2) + l3) + l4) + l5) - (0 : Int32)))]) (fun _ k => XS.aload X17.here hx rfl (hb hby at_350) rfl rfl k) ?_
  refine own_S (mkF m 353 #[iv ln, iv ca, iv cb, iv sh, rv la, rv ra, iv x1, iv x2, iv lo, iv hi, .val (.int 1), rv cs, rv ra, rv rr] [(.int 1), (.ref cs), (.int 0), (.ref la), (.int ((((((l0 + l1) + l2) + l3) + l4) + l5) - (0 : Int32)))]) (fun _ k => XS.iconst X17.here hx rfl (hb hby at_352) k) ?_
  refine own_S (mkF m 354 #[iv ln, iv ca, iv cb, iv sh, rv la, rv ra, iv x1, iv x2, iv lo, iv hi, .val (.int 1), rv cs, rv ra, rv rr] [(.int 6), (.int 0), (.ref la), (.int ((((((l0 + l1) + l2) + l3) + l4) + l5) - (0 : Int32)))]) (fun _ k => own_ldI X17 hx hZ rfl F25 (by decide) rfl (g := (mkF m 353 #[iv ln, iv ca, iv cb, iv sh, rv la, rv ra, iv x1, iv x2, iv lo, iv hi, .val (.int 1), rv cs, rv ra, rv rr] [(.int 1), (.ref cs), (.int 0), (.ref la), (.int ((((((l0 + l1) + l2) + l3) + l4) + l5) - (0 : Int32)))])) rfl rfl (hb hby at_353) _ k) ?_
  obtain ⟨_, _, ⟨T29, L29, k29, n29⟩, -, X29, ⟨Lc29, hQ29, l29, y29, z29⟩, st29⟩ := Jvm.LawKit.callS X17 hx (y := own_y2) hown (mvT hZ (own_g hw (i := 13) rfl)) (mvT hZ (own_g hw (i := 14) rfl)) (mvT hZ (own_g hw (i := 15) rfl)) (mvT hZ (own_g hw (i := 16) rfl)) (by decide) (backOf (W := 1) (own_rmmv l Z a0 hw [] (la) (kl) (l0) (l1) (l2) (l3) (l4) (l5) (0) (6) T17.heap n0 Z17 F23) hZ (own_g hw (i := 16) rfl) (own_g hw (i := 15) rfl) (by decide) (by decide)) (g := (mkF m 354 #[iv ln, iv ca, iv cb, iv sh, rv la, rv ra, iv x1, iv x2, iv lo, iv hi, .val (.int 1), rv cs, rv ra, rv rr] [(.int 6), (.int 0), (.ref la), (.int ((((((l0 + l1) + l2) + l3) + l4) + l5) - (0 : Int32)))])) rfl (by rw [hml]; rfl) (argsL := [(.ref la), (.int 0), (.int 6)]) (rest := [(.int ((((((l0 + l1) + l2) + l3) + l4) + l5) - (0 : Int32)))]) (lenOf own_pd___III_I rfl) rfl (by show 2 * 0 + _ ≤ _; exact Nat.le_of_eq rfl) (hb hby at_354) (fun _ _ => ⟨rfl, rfl, (by decide : 4 + 0 ≤ _), (by decide : 17 + 0 ≤ _)⟩)
  dsimp only [Pt.U, Pt.locs, Pt.cells, Pt.slots] at X29 l29 y29 z29 st29 hQ29
  subst l29 y29 z29
  obtain ⟨rfl, N29q, e29⟩ := hQ29
  have N29 := Fr.app N17 N29q
  refine own_S (mkF m 357 #[iv ln, iv ca, iv cb, iv sh, rv la, rv ra, iv x1, iv x2, iv lo, iv hi, .val (.int 1), rv cs, rv ra, rv rr] [(.int (own_moves l0 l1 l2 l3 l4 l5 0 6)), (.int ((((((l0 + l1) + l2) + l3) + l4) + l5) - (0 : Int32)))]) (fun _ k => st29 _ k) ?_
  have hc30 : ((((((l0 + l1) + l2) + l3) + l4) + l5) - (0 : Int32)) = (own_moves l0 l1 l2 l3 l4 l5 0 6) := (own_law l0 l1 l2 l3 l4 l5 _ _ own_b0 own_b6 own_l06)
  refine own_S (mkF m 362 #[iv ln, iv ca, iv cb, iv sh, rv la, rv ra, iv x1, iv x2, iv lo, iv hi, .val (.int 1), rv cs, rv ra, rv rr] []) (fun _ k => XS.icmpYes X29.here hx rfl (pc0 := 357) (pc' := 362) rfl (hb hby at_357) rfl (teq hc30).1 (by decide) (by decide) k) ?_
  refine own_S (mkF m 364 #[iv ln, iv ca, iv cb, iv sh, rv la, rv ra, iv x1, iv x2, iv lo, iv hi, .val (.int 1), rv cs, rv ra, rv rr] [(.int 1)]) (fun _ k => XS.iload X29.here hx rfl (hb hby at_362) rfl k) ?_
  refine own_S (mkF m 365 #[iv ln, iv ca, iv cb, iv sh, rv la, rv ra, iv x1, iv x2, iv lo, iv hi, .val (.int 1), rv cs, rv ra, rv rr] [(.int 2), (.int 1)]) (fun _ k => XS.iconst X29.here hx rfl (hb hby at_364) k) ?_
  have hc31 : (1 : Int32) < (2 : Int32) := by decide
  refine own_S (mkF m 395 #[iv ln, iv ca, iv cb, iv sh, rv la, rv ra, iv x1, iv x2, iv lo, iv hi, .val (.int 1), rv cs, rv ra, rv rr] []) (fun _ k => XS.icmpYes X29.here hx rfl (pc0 := 365) (pc' := 395) rfl (hb hby at_365) rfl (tlt hc31).1 (by decide) (by decide) k) ?_
  refine own_S (mkF m 397 #[iv ln, iv ca, iv cb, iv sh, rv la, rv ra, iv x1, iv x2, iv lo, iv hi, .val (.int 1), rv cs, rv ra, rv rr] [(.int 1)]) (fun _ k => XS.iload X29.here hx rfl (hb hby at_395) rfl k) ?_
  refine own_S (mkF m 398 #[iv ln, iv ca, iv cb, iv sh, rv la, rv ra, iv x1, iv x2, iv lo, iv hi, .val (.int 1), rv cs, rv ra, rv rr] [(.int 3), (.int 1)]) (fun _ k => XS.iconst X29.here hx rfl (hb hby at_397) k) ?_
  have hc32 : (1 : Int32) < (3 : Int32) := by decide
  refine own_S (mkF m 428 #[iv ln, iv ca, iv cb, iv sh, rv la, rv ra, iv x1, iv x2, iv lo, iv hi, .val (.int 1), rv cs, rv ra, rv rr] []) (fun _ k => XS.icmpYes X29.here hx rfl (pc0 := 398) (pc' := 428) rfl (hb hby at_398) rfl (tlt hc32).1 (by decide) (by decide) k) ?_
  refine own_S (mkF m 429 #[iv ln, iv ca, iv cb, iv sh, rv la, rv ra, iv x1, iv x2, iv lo, iv hi, .val (.int 1), rv cs, rv ra, rv rr] [(.int 1)]) (fun _ k => XS.iconst X29.here hx rfl (hb hby at_428) k) ?_
  exact own_retN X29 hx hlk (t := .boolean) hret (by simp) (hb hby at_429) (by rw [e29]; exact ⟨rfl, N29, trivial⟩) (by decide) (by decide)
set_option maxRecDepth 65536 in
set_option maxHeartbeats 40000000 in
theorem own_seg2 (l : Launch) (Z : State) (a0 : Array Value) (hw : ∀ d ∈ tables_1, d.before a0 Z = true) (ln : Int32) (ca : Int32) (cb : Int32) (sh : Int32) (h0 : Heap) (n0 : Nat) (p : Program) (e : Env) (s : State) (m : MethodId) (args : Array Value) (below : List Frame) (meth : Method) (c : Code) (T0 : State) (L0 : List Loc) (hh : Heap) (la : Addr) (ra : Addr) (kl : ClassId) (kr : ClassId) (l0 : Int32) (l1 : Int32) (l2 : Int32) (l3 : Int32) (l4 : Int32) (l5 : Int32) (x1 : Int32) (x2 : Int32) (lo : Int32) (hi : Int32) (hx : p.tables.exec = Jvm.exec) (hby : c.code = code) (hml : c.maxLocals = 14) (hZ : Z.Warmed39 s.vm) (hown : s.vm.findClass "com/example/accrue/accrue/exact/GraphStateRowsPinLaw" = some m.cls) (hlk : meth.locks = false) (hret : meth.sig.returnType = some .boolean) (X0 : Stand p l e room_1 s m args below meth c T0 L0 2 13) (e0 : T0.heap = hh) (N0 : Fr n0 L0) (Z0 : n0 ≤ hh.size) (P0 : own_Ar Z hh la kl .int [(.int l0), (.int l1), (.int l2), (.int l3), (.int l4), (.int l5)]) (P1 : own_Ar Z hh ra kr .int [(.int (0 : Int32)), (.int l0), (.int (l0 + l1)), (.int ((l0 + l1) + l2)), (.int (((l0 + l1) + l2) + l3)), (.int ((((l0 + l1) + l2) + l3) + l4)), (.int (((((l0 + l1) + l2) + l3) + l4) + l5))]) (G_la : n0 ≤ la) (G_ra : n0 ≤ ra) (NE_la_ra : la ≠ ra) (b_x1 : own_B7 x1) (b_lo : own_B7 lo) (b_hi : own_B7 hi) (lohi : ¬ hi < lo) :
    own_E p e below (own_K s (own_Qlaw Z ln ca cb sh h0 n0) room_1.cells room_1.slots) T0 (mkF m 194 #[iv ln, iv ca, iv cb, iv sh, rv la, rv ra, iv x1, iv x2, iv lo, iv hi, .val (.int 2), .unset, .unset, .unset] []) := by
  refine own_S (mkF m 196 #[iv ln, iv ca, iv cb, iv sh, rv la, rv ra, iv x1, iv x2, iv lo, iv hi, .val (.int 2), .unset, .unset, .unset] [(.ref ra)]) (fun _ k => XS.aload X0.here hx rfl (hb hby at_194) rfl rfl k) ?_
  refine own_S (mkF m 198 #[iv ln, iv ca, iv cb, iv sh, rv la, rv ra, iv x1, iv x2, iv lo, iv hi, .val (.int 2), .unset, rv ra, .unset] []) (fun _ k => XS.astore X0.here hx rfl (hb hby at_196) rfl rfl (l' := #[iv ln, iv ca, iv cb, iv sh, rv la, rv ra, iv x1, iv x2, iv lo, iv hi, .val (.int 2), .unset, rv ra, .unset]) rfl k) ?_
  refine own_S (mkF m 200 #[iv ln, iv ca, iv cb, iv sh, rv la, rv ra, iv x1, iv x2, iv lo, iv hi, .val (.int 2), .unset, rv ra, .unset] [(.int 2)]) (fun _ k => XS.iload X0.here hx rfl (hb hby at_198) rfl k) ?_
  have hc1 : ¬ ((2 : Int32) = (0 : Int32)) := by decide
  refine own_S (mkF m 224 #[iv ln, iv ca, iv cb, iv sh, rv la, rv ra, iv x1, iv x2, iv lo, iv hi, .val (.int 2), .unset, rv ra, .unset] []) (fun _ k => XS.ifYes X0.here hx rfl (pc0 := 200) (pc' := 224) rfl (hb hby at_200) rfl ((if0 _ _).trans (feq hc1).2) (by decide) (by decide) k) ?_
  refine own_S (mkF m 226 #[iv ln, iv ca, iv cb, iv sh, rv la, rv ra, iv x1, iv x2, iv lo, iv hi, .val (.int 2), .unset, rv ra, .unset] [(.int 2)]) (fun _ k => XS.iload X0.here hx rfl (hb hby at_224) rfl k) ?_
  refine own_S (mkF m 227 #[iv ln, iv ca, iv cb, iv sh, rv la, rv ra, iv x1, iv x2, iv lo, iv hi, .val (.int 2), .unset, rv ra, .unset] [(.int 1), (.int 2)]) (fun _ k => XS.iconst X0.here hx rfl (hb hby at_226) k) ?_
  have hc2 : ¬ ((2 : Int32) = (1 : Int32)) := by decide
  refine own_S (mkF m 247 #[iv ln, iv ca, iv cb, iv sh, rv la, rv ra, iv x1, iv x2, iv lo, iv hi, .val (.int 2), .unset, rv ra, .unset] []) (fun _ k => XS.icmpYes X0.here hx rfl (pc0 := 227) (pc' := 247) rfl (hb hby at_227) rfl (feq hc2).2 (by decide) (by decide) k) ?_
  refine own_S (mkF m 249 #[iv ln, iv ca, iv cb, iv sh, rv la, rv ra, iv x1, iv x2, iv lo, iv hi, .val (.int 2), .unset, rv ra, .unset] [(.int 2)]) (fun _ k => XS.iload X0.here hx rfl (hb hby at_247) rfl k) ?_
  refine own_S (mkF m 250 #[iv ln, iv ca, iv cb, iv sh, rv la, rv ra, iv x1, iv x2, iv lo, iv hi, .val (.int 2), .unset, rv ra, .unset] [(.int 2), (.int 2)]) (fun _ k => XS.iconst X0.here hx rfl (hb hby at_249) k) ?_
  have hc3 : (2 : Int32) = (2 : Int32) := by decide
  refine own_S (mkF m 253 #[iv ln, iv ca, iv cb, iv sh, rv la, rv ra, iv x1, iv x2, iv lo, iv hi, .val (.int 2), .unset, rv ra, .unset] []) (fun _ k => XS.icmpNo X0.here hx rfl (hb hby at_250) rfl (teq hc3).2 k) ?_
  refine own_S (mkF m 254 #[iv ln, iv ca, iv cb, iv sh, rv la, rv ra, iv x1, iv x2, iv lo, iv hi, .val (.int 2), .unset, rv ra, .unset] [(.int 3)]) (fun _ k => XS.iconst X0.here hx rfl (hb hby at_253) k) ?_
  obtain ⟨T4, h4, cA4, X4, e4, E4, A4, st4⟩ := newP X0 hx hZ (own_g hw (i := 0) rfl) e0 (g := (mkF m 254 #[iv ln, iv ca, iv cb, iv sh, rv la, rv ra, iv x1, iv x2, iv lo, iv hi, .val (.int 2), .unset, rv ra, .unset] [(.int 3)])) rfl (hb hby at_254) rfl (by decide) (cap := 3) (by decide) (by decide) (by decide) (by decide)
  obtain ⟨cs, g4⟩ : ∃ z, z = hh.size := ⟨_, rfl⟩
  rw [← g4] at A4 st4
  have n5 : la ≠ cs := Nat.ne_of_lt (Nat.lt_of_lt_of_eq P0.lt g4.symm)
  have n6 : ra ≠ cs := Nat.ne_of_lt (Nat.lt_of_lt_of_eq P1.lt g4.symm)
  have ge_cs : n0 ≤ cs := Nat.le_trans Z0 (Nat.le_of_eq g4.symm)
  have F7 := P0.ext E4
  have F8 := P1.ext E4
  have Z4 : n0 ≤ h4.size := Nat.le_trans Z0 E4.1
  have F9 : own_Ar Z h4 cs cA4 .int [(.int (0 : Int32)), (.int (0 : Int32)), (.int (0 : Int32))] := own_Ar.new A4 rfl
  refine own_S (mkF m 256 #[iv ln, iv ca, iv cb, iv sh, rv la, rv ra, iv x1, iv x2, iv lo, iv hi, .val (.int 2), .unset, rv ra, .unset] [(.ref cs)]) st4 ?_
  refine own_S (mkF m 257 #[iv ln, iv ca, iv cb, iv sh, rv la, rv ra, iv x1, iv x2, iv lo, iv hi, .val (.int 2), .unset, rv ra, .unset] [(.ref cs), (.ref cs)]) (fun _ k => XS.dup X4.here hx rfl (hb hby at_256) rfl rfl k) ?_
  refine own_S (mkF m 258 #[iv ln, iv ca, iv cb, iv sh, rv la, rv ra, iv x1, iv x2, iv lo, iv hi, .val (.int 2), .unset, rv ra, .unset] [(.int 0), (.ref cs), (.ref cs)]) (fun _ k => XS.iconst X4.here hx rfl (hb hby at_257) k) ?_
  refine own_S (mkF m 259 #[iv ln, iv ca, iv cb, iv sh, rv la, rv ra, iv x1, iv x2, iv lo, iv hi, .val (.int 2), .unset, rv ra, .unset] [(.int 0), (.int 0), (.ref cs), (.ref cs)]) (fun _ k => XS.iconst X4.here hx rfl (hb hby at_258) k) ?_
  obtain ⟨T10, h10, X10, e10, W10, AR10, st10⟩ := own_stI (j := (0 : Int32)) X4 hx hZ e4 F9 (by decide) (show (0 : Nat) < 3 from by decide) (g := (mkF m 259 #[iv ln, iv ca, iv cb, iv sh, rv la, rv ra, iv x1, iv x2, iv lo, iv hi, .val (.int 2), .unset, rv ra, .unset] [(.int 0), (.int 0), (.ref cs), (.ref cs)])) rfl rfl (hb hby at_259)
  refine own_S (mkF m 260 #[iv ln, iv ca, iv cb, iv sh, rv la, rv ra, iv x1, iv x2, iv lo, iv hi, .val (.int 2), .unset, rv ra, .unset] [(.ref cs)]) st10 ?_
  have F11 := F7.other W10 n5
  have F12 := F8.other W10 n6
  have F13 : own_Ar Z h10 cs cA4 .int [(.int 0), (.int (0 : Int32)), (.int (0 : Int32))] := AR10
  have N10 := Fr.snoc X10 N0 ge_cs
  have Z10 : n0 ≤ h10.size := by rw [Wr.size W10]; exact Z4
  refine own_S (mkF m 261 #[iv ln, iv ca, iv cb, iv sh, rv la, rv ra, iv x1, iv x2, iv lo, iv hi, .val (.int 2), .unset, rv ra, .unset] [(.ref cs), (.ref cs)]) (fun _ k => XS.dup X10.here hx rfl (hb hby at_260) rfl rfl k) ?_
  refine own_S (mkF m 262 #[iv ln, iv ca, iv cb, iv sh, rv la, rv ra, iv x1, iv x2, iv lo, iv hi, .val (.int 2), .unset, rv ra, .unset] [(.int 1), (.ref cs), (.ref cs)]) (fun _ k => XS.iconst X10.here hx rfl (hb hby at_261) k) ?_
  refine own_S (mkF m 264 #[iv ln, iv ca, iv cb, iv sh, rv la, rv ra, iv x1, iv x2, iv lo, iv hi, .val (.int 2), .unset, rv ra, .unset] [(.int x1), (.int 1), (.ref cs), (.ref cs)]) (fun _ k => XS.iload X10.here hx rfl (hb hby at_262) rfl k) ?_
  obtain ⟨T14, h14, X14, e14, W14, AR14, st14⟩ := own_stI (j := (1 : Int32)) X10 hx hZ e10 F13 (by decide) (show (1 : Nat) < 3 from by decide) (g := (mkF m 264 #[iv ln, iv ca, iv cb, iv sh, rv la, rv ra, iv x1, iv x2, iv lo, iv hi, .val (.int 2), .unset, rv ra, .unset] [(.int x1), (.int 1), (.ref cs), (.ref cs)])) rfl rfl (hb hby at_264)
  refine own_S (mkF m 265 #[iv ln, iv ca, iv cb, iv sh, rv la, rv ra, iv x1, iv x2, iv lo, iv hi, .val (.int 2), .unset, rv ra, .unset] [(.ref cs)]) st14 ?_
  have F15 := F11.other W14 n5
  have F16 := F12.other W14 n6
  have F17 : own_Ar Z h14 cs cA4 .int [(.int 0), (.int x1), (.int (0 : Int32))] := AR14
  have N14 := Fr.snoc X14 N10 ge_cs
  have Z14 : n0 ≤ h14.size := by rw [Wr.size W14]; exact Z10
  refine own_S (mkF m 266 #[iv ln, iv ca, iv cb, iv sh, rv la, rv ra, iv x1, iv x2, iv lo, iv hi, .val (.int 2), .unset, rv ra, .unset] [(.ref cs), (.ref cs)]) (fun _ k => XS.dup X14.here hx rfl (hb hby at_265) rfl rfl k) ?_
  refine own_S (mkF m 267 #[iv ln, iv ca, iv cb, iv sh, rv la, rv ra, iv x1, iv x2, iv lo, iv hi, .val (.int 2), .unset, rv ra, .unset] [(.int 2), (.ref cs), (.ref cs)]) (fun _ k => XS.iconst X14.here hx rfl (hb hby at_266) k) ?_
  refine own_S (mkF m 269 #[iv ln, iv ca, iv cb, iv sh, rv la, rv ra, iv x1, iv x2, iv lo, iv hi, .val (.int 2), .unset, rv ra, .unset] [(.int 6), (.int 2), (.ref cs), (.ref cs)]) (fun _ k => XS.bipush X14.here hx rfl (hb hby at_267) k) ?_
  obtain ⟨T18, h18, X18, e18, W18, AR18, st18⟩ := own_stI (j := (2 : Int32)) X14 hx hZ e14 F17 (by decide) (show (2 : Nat) < 3 from by decide) (g := (mkF m 269 #[iv ln, iv ca, iv cb, iv sh, rv la, rv ra, iv x1, iv x2, iv lo, iv hi, .val (.int 2), .unset, rv ra, .unset] [(.int 6), (.int 2), (.ref cs), (.ref cs)])) rfl rfl (hb hby at_269)
  refine own_S (mkF m 270 #[iv ln, iv ca, iv cb, iv sh, rv la, rv ra, iv x1, iv x2, iv lo, iv hi, .val (.int 2), .unset, rv ra, .unset] [(.ref cs)]) st18 ?_
  have F19 := F15.other W18 n5
  have F20 := F16.other W18 n6
  have F21 : own_Ar Z h18 cs cA4 .int [(.int 0), (.int x1), (.int 6)] := AR18
  have N18 := Fr.snoc X18 N14 ge_cs
  have Z18 : n0 ≤ h18.size := by rw [Wr.size W18]; exact Z14
  refine own_S (mkF m 272 #[iv ln, iv ca, iv cb, iv sh, rv la, rv ra, iv x1, iv x2, iv lo, iv hi, .val (.int 2), rv cs, rv ra, .unset] []) (fun _ k => XS.astore X18.here hx rfl (hb hby at_270) rfl rfl (l' := #[iv ln, iv ca, iv cb, iv sh, rv la, rv ra, iv x1, iv x2, iv lo, iv hi, .val (.int 2), rv cs, rv ra, .unset]) rfl k) ?_
  refine own_S (mkF m 299 #[iv ln, iv ca, iv cb, iv sh, rv la, rv ra, iv x1, iv x2, iv lo, iv hi, .val (.int 2), rv cs, rv ra, .unset] []) (fun _ k => XS.goto X18.here hx rfl (pc0 := 272) (pc' := 299) rfl (hb hby at_272) (by decide) (by decide) k) ?_
  refine own_S (mkF m 301 #[iv ln, iv ca, iv cb, iv sh, rv la, rv ra, iv x1, iv x2, iv lo, iv hi, .val (.int 2), rv cs, rv ra, .unset] [(.ref cs)]) (fun _ k => XS.aload X18.here hx rfl (hb hby at_299) rfl rfl k) ?_
  refine own_S (mkF m 303 #[iv ln, iv ca, iv cb, iv sh, rv la, rv ra, iv x1, iv x2, iv lo, iv hi, .val (.int 2), rv cs, rv ra, .unset] [(.ref ra), (.ref cs)]) (fun _ k => XS.aload X18.here hx rfl (hb hby at_301) rfl rfl k) ?_
  obtain ⟨_, _, ⟨T22, L22, k22, n22⟩, -, X22, ⟨Lc22, hQ22, l22, y22, z22⟩, st22⟩ := Jvm.LawKit.callS X18 hx (y := own_y3) hown (mvT hZ (own_g hw (i := 9) rfl)) (mvT hZ (own_g hw (i := 10) rfl)) (mvT hZ (own_g hw (i := 11) rfl)) (mvT hZ (own_g hw (i := 12) rfl)) (by decide) (backOf (W := 0) (own_rmsr2 l Z a0 hw [] (cs) (ra) (cA4) (kr) (x1) ((own_R l0 l1 l2 l3 l4 l5 x1)) (l0) ((l0 + l1)) (((l0 + l1) + l2)) ((((l0 + l1) + l2) + l3)) (((((l0 + l1) + l2) + l3) + l4)) ((((((l0 + l1) + l2) + l3) + l4) + l5)) h18 n0 Z18 F21 F20 b_x1.1 (own_Rat l0 l1 l2 l3 l4 l5 x1 b_x1)) hZ (own_g hw (i := 12) rfl) (own_g hw (i := 11) rfl) (by decide) (by decide)) (g := (mkF m 303 #[iv ln, iv ca, iv cb, iv sh, rv la, rv ra, iv x1, iv x2, iv lo, iv hi, .val (.int 2), rv cs, rv ra, .unset] [(.ref ra), (.ref cs)])) rfl (by rw [hml]; rfl) (argsL := [(.ref cs), (.ref ra)]) (rest := []) (lenOf own_pd___I_I__I rfl) rfl (by show 2 * 0 + _ ≤ _; exact Nat.le_of_eq rfl) (hb hby at_303) (fun _ _ => ⟨rfl, e18, (by decide : 3 + 1 ≤ _), (by decide : 16 + 3 ≤ _)⟩)
  dsimp only [Pt.U, Pt.locs, Pt.cells, Pt.slots] at X22 l22 y22 z22 st22 hQ22
  subst l22 y22 z22
  obtain ⟨rr, kx, rfl, N22q, K22q, F23, pp24⟩ := hQ22
  have N22 := Fr.app N18 N22q
  refine own_S (mkF m 306 #[iv ln, iv ca, iv cb, iv sh, rv la, rv ra, iv x1, iv x2, iv lo, iv hi, .val (.int 2), rv cs, rv ra, .unset] [(.ref rr)]) (fun _ k => st22 _ k) ?_
  have n25 : la ≠ rr := Nat.ne_of_lt (Nat.lt_of_lt_of_le F19.lt pp24)
  have n26 : ra ≠ rr := Nat.ne_of_lt (Nat.lt_of_lt_of_le F20.lt pp24)
  have n27 : cs ≠ rr := Nat.ne_of_lt (Nat.lt_of_lt_of_le F21.lt pp24)
  have ge_rr : n0 ≤ rr := Nat.le_trans Z18 pp24
  have F28 := F19.keep K22q nin0
  have F29 := F20.keep K22q nin0
  have F30 := F21.keep K22q nin0
  have Z22 : n0 ≤ T22.heap.size := Nat.le_trans Z18 K22q.1
  refine own_S (mkF m 308 #[iv ln, iv ca, iv cb, iv sh, rv la, rv ra, iv x1, iv x2, iv lo, iv hi, .val (.int 2), rv cs, rv ra, rv rr] []) (fun _ k => XS.astore X22.here hx rfl (hb hby at_306) rfl rfl (l' := #[iv ln, iv ca, iv cb, iv sh, rv la, rv ra, iv x1, iv x2, iv lo, iv hi, .val (.int 2), rv cs, rv ra, rv rr]) rfl k) ?_
  refine own_S (mkF m 310 #[iv ln, iv ca, iv cb, iv sh, rv la, rv ra, iv x1, iv x2, iv lo, iv hi, .val (.int 2), rv cs, rv ra, rv rr] [(.ref rr)]) (fun _ k => XS.aload X22.here hx rfl (hb hby at_308) rfl rfl k) ?_
  refine own_S (mkF m 311 #[iv ln, iv ca, iv cb, iv sh, rv la, rv ra, iv x1, iv x2, iv lo, iv hi, .val (.int 2), rv cs, rv ra, rv rr] [(.int 3)]) (fun _ k => own_alen X22 hx hZ rfl F23 (g := (mkF m 310 #[iv ln, iv ca, iv cb, iv sh, rv la, rv ra, iv x1, iv x2, iv lo, iv hi, .val (.int 2), rv cs, rv ra, rv rr] [(.ref rr)])) rfl rfl (hb hby at_310) _ k) ?_
  refine own_S (mkF m 313 #[iv ln, iv ca, iv cb, iv sh, rv la, rv ra, iv x1, iv x2, iv lo, iv hi, .val (.int 2), rv cs, rv ra, rv rr] [(.int 2), (.int 3)]) (fun _ k => XS.iload X22.here hx rfl (hb hby at_311) rfl k) ?_
  refine own_S (mkF m 314 #[iv ln, iv ca, iv cb, iv sh, rv la, rv ra, iv x1, iv x2, iv lo, iv hi, .val (.int 2), rv cs, rv ra, rv rr] [(.int 1), (.int 2), (.int 3)]) (fun _ k => XS.iconst X22.here hx rfl (hb hby at_313) k) ?_
  refine own_S (mkF m 315 #[iv ln, iv ca, iv cb, iv sh, rv la, rv ra, iv x1, iv x2, iv lo, iv hi, .val (.int 2), rv cs, rv ra, rv rr] [(.int 3), (.int 3)]) (fun _ k => XS.iadd X22.here hx rfl (hb hby at_314) rfl k) ?_
  have hc31 : (3 : Int32) = (3 : Int32) := by decide
  refine own_S (mkF m 320 #[iv ln, iv ca, iv cb, iv sh, rv la, rv ra, iv x1, iv x2, iv lo, iv hi, .val (.int 2), rv cs, rv ra, rv rr] []) (fun _ k => XS.icmpYes X22.here hx rfl (pc0 := 315) (pc' := 320) rfl (hb hby at_315) rfl (teq hc31).1 (by decide) (by decide) k) ?_
  refine own_S (mkF m 322 #[iv ln, iv ca, iv cb, iv sh, rv la, rv ra, iv x1, iv x2, iv lo, iv hi, .val (.int 2), rv cs, rv ra, rv rr] [(.ref rr)]) (fun _ k => XS.aload X22.here hx rfl (hb hby at_320) rfl rfl k) ?_
  refine own_S (mkF m 323 #[iv ln, iv ca, iv cb, iv sh, rv la, rv ra, iv x1, iv x2, iv lo, iv hi, .val (.int 2), rv cs, rv ra, rv rr] [(.int 0), (.ref rr)]) (fun _ k => XS.iconst X22.here hx rfl (hb hby at_322) k) ?_
  refine own_S (mkF m 324 #[iv ln, iv ca, iv cb, iv sh, rv la, rv ra, iv x1, iv x2, iv lo, iv hi, .val (.int 2), rv cs, rv ra, rv rr] [(.int 0)]) (fun _ k => own_ldI X22 hx hZ rfl F23 (by decide) rfl (g := (mkF m 323 #[iv ln, iv ca, iv cb, iv sh, rv la, rv ra, iv x1, iv x2, iv lo, iv hi, .val (.int 2), rv cs, rv ra, rv rr] [(.int 0), (.ref rr)])) rfl rfl (hb hby at_323) _ k) ?_
  have hc32 : (0 : Int32) = (0 : Int32) := by decide
  refine own_S (mkF m 329 #[iv ln, iv ca, iv cb, iv sh, rv la, rv ra, iv x1, iv x2, iv lo, iv hi, .val (.int 2), rv cs, rv ra, rv rr] []) (fun _ k => XS.ifYes X22.here hx rfl (pc0 := 324) (pc' := 329) rfl (hb hby at_324) rfl ((if0 _ _).trans (teq hc32).1) (by decide) (by decide) k) ?_
  refine own_S (mkF m 331 #[iv ln, iv ca, iv cb, iv sh, rv la, rv ra, iv x1, iv x2, iv lo, iv hi, .val (.int 2), rv cs, rv ra, rv rr] [(.int 2)]) (fun _ k => XS.iload X22.here hx rfl (hb hby at_329) rfl k) ?_
  refine own_S (mkF m 332 #[iv ln, iv ca, iv cb, iv sh, rv la, rv ra, iv x1, iv x2, iv lo, iv hi, .val (.int 2), rv cs, rv ra, rv rr] [(.int 1), (.int 2)]) (fun _ k => XS.iconst X22.here hx rfl (hb hby at_331) k) ?_
  have hc33 : ¬ ((2 : Int32) < (1 : Int32)) := by decide
  refine own_S (mkF m 335 #[iv ln, iv ca, iv cb, iv sh, rv la, rv ra, iv x1, iv x2, iv lo, iv hi, .val (.int 2), rv cs, rv ra, rv rr] []) (fun _ k => XS.icmpNo X22.here hx rfl (hb hby at_332) rfl (flt hc33).1 k) ?_
  refine own_S (mkF m 337 #[iv ln, iv ca, iv cb, iv sh, rv la, rv ra, iv x1, iv x2, iv lo, iv hi, .val (.int 2), rv cs, rv ra, rv rr] [(.ref rr)]) (fun _ k => XS.aload X22.here hx rfl (hb hby at_335) rfl rfl k) ?_
  refine own_S (mkF m 338 #[iv ln, iv ca, iv cb, iv sh, rv la, rv ra, iv x1, iv x2, iv lo, iv hi, .val (.int 2), rv cs, rv ra, rv rr] [(.int 1), (.ref rr)]) (fun _ k => XS.iconst X22.here hx rfl (hb hby at_337) k) ?_
  refine own_S (mkF m 339 #[iv ln, iv ca, iv cb, iv sh, rv la, rv ra, iv x1, iv x2, iv lo, iv hi, .val (.int 2), rv cs, rv ra, rv rr] [(.int (own_R l0 l1 l2 l3 l4 l5 x1))]) (fun _ k => own_ldI X22 hx hZ rfl F23 (by decide) rfl (g := (mkF m 338 #[iv ln, iv ca, iv cb, iv sh, rv la, rv ra, iv x1, iv x2, iv lo, iv hi, .val (.int 2), rv cs, rv ra, rv rr] [(.int 1), (.ref rr)])) rfl rfl (hb hby at_338) _ k) ?_
  refine own_S (mkF m 341 #[iv ln, iv ca, iv cb, iv sh, rv la, rv ra, iv x1, iv x2, iv lo, iv hi, .val (.int 2), rv cs, rv ra, rv rr] [(.ref rr), (.int (own_R l0 l1 l2 l3 l4 l5 x1))]) (fun _ k => XS.aload X22.here hx rfl (hb hby at_339) rfl rfl k) ?_
  refine own_S (mkF m 342 #[iv ln, iv ca, iv cb, iv sh, rv la, rv ra, iv x1, iv x2, iv lo, iv hi, .val (.int 2), rv cs, rv ra, rv rr] [(.int 0), (.ref rr), (.int (own_R l0 l1 l2 l3 l4 l5 x1))]) (fun _ k => XS.iconst X22.here hx rfl (hb hby at_341) k) ?_
  refine own_S (mkF m 343 #[iv ln, iv ca, iv cb, iv sh, rv la, rv ra, iv x1, iv x2, iv lo, iv hi, .val (.int 2), rv cs, rv ra, rv rr] [(.int 0), (.int (own_R l0 l1 l2 l3 l4 l5 x1))]) (fun _ k => own_ldI X22 hx hZ rfl F23 (by decide) rfl (g := (mkF m 342 #[iv ln, iv ca, iv cb, iv sh, rv la, rv ra, iv x1, iv x2, iv lo, iv hi, .val (.int 2), rv cs, rv ra, rv rr] [(.int 0), (.ref rr), (.int (own_R l0 l1 l2 l3 l4 l5 x1))])) rfl rfl (hb hby at_342) _ k) ?_
  refine own_S (mkF m 344 #[iv ln, iv ca, iv cb, iv sh, rv la, rv ra, iv x1, iv x2, iv lo, iv hi, .val (.int 2), rv cs, rv ra, rv rr] [(.int ((own_R l0 l1 l2 l3 l4 l5 x1) - (0 : Int32)))]) (fun _ k => XS.isub X22.here hx rfl (hb hby at_343) rfl k) ?_
  refine own_S (mkF m 346 #[iv ln, iv ca, iv cb, iv sh, rv la, rv ra, iv x1, iv x2, iv lo, iv hi, .val (.int 2), rv cs, rv ra, rv rr] [(.ref la), (.int ((own_R l0 l1 l2 l3 l4 l5 x1) - (0 : Int32)))]) (fun _ k => XS.aload X22.here hx rfl (hb hby at_344) rfl rfl k) ?_
  refine own_S (mkF m 348 #[iv ln, iv ca, iv cb, iv sh, rv la, rv ra, iv x1, iv x2, iv lo, iv hi, .val (.int 2), rv cs, rv ra, rv rr] [(.ref cs), (.ref la), (.int ((own_R l0 l1 l2 l3 l4 l5 x1) - (0 : Int32)))]) (fun _ k => XS.aload X22.here hx rfl (hb hby at_346) rfl rfl k) ?_
  refine own_S (mkF m 349 #[iv ln, iv ca, iv cb, iv sh, rv la, rv ra, iv x1, iv x2, iv lo, iv hi, .val (.int 2), rv cs, rv ra, rv rr] [(.int 0), (.ref cs), (.ref la), (.int ((own_R l0 l1 l2 l3 l4 l5 x1) - (0 : Int32)))]) (fun _ k => XS.iconst X22.here hx rfl (hb hby at_348) k) ?_
  refine own_S (mkF m 350 #[iv ln, iv ca, iv cb, iv sh, rv la, rv ra, iv x1, iv x2, iv lo, iv hi, .val (.int 2), rv cs, rv ra, rv rr] [(.int 0), (.ref la), (.int ((own_R l0 l1 l2 l3 l4 l5 x1) - (0 : Int32)))]) (fun _ k => own_ldI X22 hx hZ rfl F30 (by decide) rfl (g := (mkF m 349 #[iv ln, iv ca, iv cb, iv sh, rv la, rv ra, iv x1, iv x2, iv lo, iv hi, .val (.int 2), rv cs, rv ra, rv rr] [(.int 0), (.ref cs), (.ref la), (.int ((own_R l0 l1 l2 l3 l4 l5 x1) - (0 : Int32)))])) rfl rfl (hb hby at_349) _ k) ?_
  refine own_S (mkF m 352 #[iv ln, iv ca, iv cb, iv sh, rv la, rv ra, iv x1, iv x2, iv lo, iv hi, .val (.int 2), rv cs, rv ra, rv rr] [(.ref cs), (.int 0), (.ref la), (.int ((own_R l0 l1 l2 l3 l4 l5 x1) - (0 : Int32)))]) (fun _ k => XS.aload X22.here hx rfl (hb hby at_350) rfl rfl k) ?_
  refine own_S (mkF m 353 #[iv ln, iv ca, iv cb, iv sh, rv la, rv ra, iv x1, iv x2, iv lo, iv hi, .val (.int 2), rv cs, rv ra, rv rr] [(.int 1), (.ref cs), (.int 0), (.ref la), (.int ((own_R l0 l1 l2 l3 l4 l5 x1) - (0 : Int32)))]) (fun _ k => XS.iconst X22.here hx rfl (hb hby at_352) k) ?_
  refine own_S (mkF m 354 #[iv ln, iv ca, iv cb, iv sh, rv la, rv ra, iv x1, iv x2, iv lo, iv hi, .val (.int 2), rv cs, rv ra, rv rr] [(.int x1), (.int 0), (.ref la), (.int ((own_R l0 l1 l2 l3 l4 l5 x1) - (0 : Int32)))]) (fun _ k => own_ldI X22 hx hZ rfl F30 (by decide) rfl (g := (mkF m 353 #[iv ln, iv ca, iv cb, iv sh, rv la, rv ra, iv x1, iv x2, iv lo, iv hi, .val (.int 2), rv cs, rv ra, rv rr] [(.int 1), (.ref cs), (.int 0), (.ref la), (.int ((own_R l0 l1 l2 l3 l4 l5 x1) - (0 : Int32)))])) rfl rfl (hb hby at_353) _ k) ?_
  obtain ⟨_, _, ⟨T34, L34, k34, n34⟩, -, X34, ⟨Lc34, hQ34, l34, y34, z34⟩, st34⟩ := Jvm.LawKit.callS X22 hx (y := own_y2) hown (mvT hZ (own_g hw (i := 13) rfl)) (mvT hZ (own_g hw (i := 14) rfl)) (mvT hZ (own_g hw (i := 15) rfl)) (mvT hZ (own_g hw (i := 16) rfl)) (by decide) (backOf (W := 1) (own_rmmv l Z a0 hw [] (la) (kl) (l0) (l1) (l2) (l3) (l4) (l5) (0) (x1) T22.heap n0 Z22 F28) hZ (own_g hw (i := 16) rfl) (own_g hw (i := 15) rfl) (by decide) (by decide)) (g := (mkF m 354 #[iv ln, iv ca, iv cb, iv sh, rv la, rv ra, iv x1, iv x2, iv lo, iv hi, .val (.int 2), rv cs, rv ra, rv rr] [(.int x1), (.int 0), (.ref la), (.int ((own_R l0 l1 l2 l3 l4 l5 x1) - (0 : Int32)))])) rfl (by rw [hml]; rfl) (argsL := [(.ref la), (.int 0), (.int x1)]) (rest := [(.int ((own_R l0 l1 l2 l3 l4 l5 x1) - (0 : Int32)))]) (lenOf own_pd___III_I rfl) rfl (by show 2 * 0 + _ ≤ _; exact Nat.le_of_eq rfl) (hb hby at_354) (fun _ _ => ⟨rfl, rfl, (by decide : 4 + 0 ≤ _), (by decide : 19 + 0 ≤ _)⟩)
  dsimp only [Pt.U, Pt.locs, Pt.cells, Pt.slots] at X34 l34 y34 z34 st34 hQ34
  subst l34 y34 z34
  obtain ⟨rfl, N34q, e34⟩ := hQ34
  have N34 := Fr.app N22 N34q
  refine own_S (mkF m 357 #[iv ln, iv ca, iv cb, iv sh, rv la, rv ra, iv x1, iv x2, iv lo, iv hi, .val (.int 2), rv cs, rv ra, rv rr] [(.int (own_moves l0 l1 l2 l3 l4 l5 0 x1)), (.int ((own_R l0 l1 l2 l3 l4 l5 x1) - (0 : Int32)))]) (fun _ k => st34 _ k) ?_
  have hc35 : ((own_R l0 l1 l2 l3 l4 l5 x1) - (0 : Int32)) = (own_moves l0 l1 l2 l3 l4 l5 0 x1) := (own_law l0 l1 l2 l3 l4 l5 _ _ own_b0 b_x1 (own_l0 b_x1))
  refine own_S (mkF m 362 #[iv ln, iv ca, iv cb, iv sh, rv la, rv ra, iv x1, iv x2, iv lo, iv hi, .val (.int 2), rv cs, rv ra, rv rr] []) (fun _ k => XS.icmpYes X34.here hx rfl (pc0 := 357) (pc' := 362) rfl (hb hby at_357) rfl (teq hc35).1 (by decide) (by decide) k) ?_
  refine own_S (mkF m 364 #[iv ln, iv ca, iv cb, iv sh, rv la, rv ra, iv x1, iv x2, iv lo, iv hi, .val (.int 2), rv cs, rv ra, rv rr] [(.int 2)]) (fun _ k => XS.iload X34.here hx rfl (hb hby at_362) rfl k) ?_
  refine own_S (mkF m 365 #[iv ln, iv ca, iv cb, iv sh, rv la, rv ra, iv x1, iv x2, iv lo, iv hi, .val (.int 2), rv cs, rv ra, rv rr] [(.int 2), (.int 2)]) (fun _ k => XS.iconst X34.here hx rfl (hb hby at_364) k) ?_
  have hc36 : ¬ ((2 : Int32) < (2 : Int32)) := by decide
  refine own_S (mkF m 368 #[iv ln, iv ca, iv cb, iv sh, rv la, rv ra, iv x1, iv x2, iv lo, iv hi, .val (.int 2), rv cs, rv ra, rv rr] []) (fun _ k => XS.icmpNo X34.here hx rfl (hb hby at_365) rfl (flt hc36).1 k) ?_
  refine own_S (mkF m 370 #[iv ln, iv ca, iv cb, iv sh, rv la, rv ra, iv x1, iv x2, iv lo, iv hi, .val (.int 2), rv cs, rv ra, rv rr] [(.ref rr)]) (fun _ k => XS.aload X34.here hx rfl (hb hby at_368) rfl rfl k) ?_
  refine own_S (mkF m 371 #[iv ln, iv ca, iv cb, iv sh, rv la, rv ra, iv x1, iv x2, iv lo, iv hi, .val (.int 2), rv cs, rv ra, rv rr] [(.int 2), (.ref rr)]) (fun _ k => XS.iconst X34.here hx rfl (hb hby at_370) k) ?_
  refine own_S (mkF m 372 #[iv ln, iv ca, iv cb, iv sh, rv la, rv ra, iv x1, iv x2, iv lo, iv hi, .val (.int 2), rv cs, rv ra, rv rr] [(.int (((((l0 + l1) + l2) + l3) + l4) + l5))]) (fun _ k => own_ldI X34 hx hZ e34 F23 (by decide) rfl (g := (mkF m 371 #[iv ln, iv ca, iv cb, iv sh, rv la, rv ra, iv x1, iv x2, iv lo, iv hi, .val (.int 2), rv cs, rv ra, rv rr] [(.int 2), (.ref rr)])) rfl rfl (hb hby at_371) _ k) ?_
  refine own_S (mkF m 374 #[iv ln, iv ca, iv cb, iv sh, rv la, rv ra, iv x1, iv x2, iv lo, iv hi, .val (.int 2), rv cs, rv ra, rv rr] [(.ref rr), (.int (((((l0 + l1) + l2) + l3) + l4) + l5))]) (fun _ k => XS.aload X34.here hx rfl (hb hby at_372) rfl rfl k) ?_
  refine own_S (mkF m 375 #[iv ln, iv ca, iv cb, iv sh, rv la, rv ra, iv x1, iv x2, iv lo, iv hi, .val (.int 2), rv cs, rv ra, rv rr] [(.int 1), (.ref rr), (.int (((((l0 + l1) + l2) + l3) + l4) + l5))]) (fun _ k => XS.iconst X34.here hx rfl (hb hby at_374) k) ?_
  refine own_S (mkF m 376 #[iv ln, iv ca, iv cb, iv sh, rv la, rv ra, iv x1, iv x2, iv lo, iv hi, .val (.int 2), rv cs, rv ra, rv rr] [(.int (own_R l0 l1 l2 l3 l4 l5 x1)), (.int (((((l0 + l1) + l2) + l3) + l4) + l5))]) (fun _ k => own_ldI X34 hx hZ e34 F23 (by decide) rfl (g := (mkF m 375 #[iv ln, iv ca, iv cb, iv sh, rv la, rv ra, iv x1, iv x2, iv lo, iv hi, .val (.int 2), rv cs, rv ra, rv rr] [(.int 1), (.ref rr), (.int (((((l0 + l1) + l2) + l3) + l4) + l5))])) rfl rfl (hb hby at_375) _ k) ?_
  refine own_S (mkF m 377 #[iv ln, iv ca, iv cb, iv sh, rv la, rv ra, iv x1, iv x2, iv lo, iv hi, .val (.int 2), rv cs, rv ra, rv rr] [(.int ((((((l0 + l1) + l2) + l3) + l4) + l5) - (own_R l0 l1 l2 l3 l4 l5 x1)))]) (fun _ k => XS.isub X34.here hx rfl (hb hby at_376) rfl k) ?_
  refine own_S (mkF m 379 #[iv ln, iv ca, iv cb, iv sh, rv la, rv ra, iv x1, iv x2, iv lo, iv hi, .val (.int 2), rv cs, rv ra, rv rr] [(.ref la), (.int ((((((l0 + l1) + l2) + l3) + l4) + l5) - (own_R l0 l1 l2 l3 l4 l5 x1)))]) (fun _ k => XS.aload X34.here hx rfl (hb hby at_377) rfl rfl k) ?_
  refine own_S (mkF m 381 #[iv ln, iv ca, iv cb, iv sh, rv la, rv ra, iv x1, iv x2, iv lo, iv hi, .val (.int 2), rv cs, rv ra, rv rr] [(.ref cs), (.ref la), (.int ((((((l0 + l1) + l2) + l3) + l4) + l5) - (own_R l0 l1 l2 l3 l4 l5 x1)))]) (fun _ k => XS.aload X34.here hx rfl (hb hby at_379) rfl rfl k) ?_
  refine own_S (mkF m 382 #[iv ln, iv ca, iv cb, iv sh, rv la, rv ra, iv x1, iv x2, iv lo, iv hi, .val (.int 2), rv cs, rv ra, rv rr] [(.int 1), (.ref cs), (.ref la), (.int ((((((l0 + l1) + l2) + l3) + l4) + l5) - (own_R l0 l1 l2 l3 l4 l5 x1)))]) (fun _ k => XS.iconst X34.here hx rfl (hb hby at_381) k) ?_
  refine own_S (mkF m 383 #[iv ln, iv ca, iv cb, iv sh, rv la, rv ra, iv x1, iv x2, iv lo, iv hi, .val (.int 2), rv cs, rv ra, rv rr] [(.int x1), (.ref la), (.int ((((((l0 + l1) + l2) + l3) + l4) + l5) - (own_R l0 l1 l2 l3 l4 l5 x1)))]) (fun _ k => own_ldI X34 hx hZ e34 F30 (by decide) rfl (g := (mkF m 382 #[iv ln, iv ca, iv cb, iv sh, rv la, rv ra, iv x1, iv x2, iv lo, iv hi, .val (.int 2), rv cs, rv ra, rv rr] [(.int 1), (.ref cs), (.ref la), (.int ((((((l0 + l1) + l2) + l3) + l4) + l5) - (own_R l0 l1 l2 l3 l4 l5 x1)))])) rfl rfl (hb hby at_382) _ k) ?_
  refine own_S (mkF m 385 #[iv ln, iv ca, iv cb, iv sh, rv la, rv ra, iv x1, iv x2, iv lo, iv hi, .val (.int 2), rv cs, rv ra, rv rr] [(.ref cs), (.int x1), (.ref la), (.int ((((((l0 + l1) + l2) + l3) + l4) + l5) - (own_R l0 l1 l2 l3 l4 l5 x1)))]) (fun _ k => XS.aload X34.here hx rfl (hb hby at_383) rfl rfl k) ?_
  refine own_S (mkF m 386 #[iv ln, iv ca, iv cb, iv sh, rv la, rv ra, iv x1, iv x2, iv lo, iv hi, .val (.int 2), rv cs, rv ra, rv rr] [(.int 2), (.ref cs), (.int x1), (.ref la), (.int ((((((l0 + l1) + l2) + l3) + l4) + l5) - (own_R l0 l1 l2 l3 l4 l5 x1)))]) (fun _ k => XS.iconst X34.here hx rfl (hb hby at_385) k) ?_
  refine own_S (mkF m 387 #[iv ln, iv ca, iv cb, iv sh, rv la, rv ra, iv x1, iv x2, iv lo, iv hi, .val (.int 2), rv cs, rv ra, rv rr] [(.int 6), (.int x1), (.ref la), (.int ((((((l0 + l1) + l2) + l3) + l4) + l5) - (own_R l0 l1 l2 l3 l4 l5 x1)))]) (fun _ k => own_ldI X34 hx hZ e34 F30 (by decide) rfl (g := (mkF m 386 #[iv ln, iv ca, iv cb, iv sh, rv la, rv ra, iv x1, iv x2, iv lo, iv hi, .val (.int 2), rv cs, rv ra, rv rr] [(.int 2), (.ref cs), (.int x1), (.ref la), (.int ((((((l0 + l1) + l2) + l3) + l4) + l5) - (own_R l0 l1 l2 l3 l4 l5 x1)))])) rfl rfl (hb hby at_386) _ k) ?_
  obtain ⟨_, _, ⟨T37, L37, k37, n37⟩, -, X37, ⟨Lc37, hQ37, l37, y37, z37⟩, st37⟩ := Jvm.LawKit.callS X34 hx (y := own_y2) hown (mvT hZ (own_g hw (i := 13) rfl)) (mvT hZ (own_g hw (i := 14) rfl)) (mvT hZ (own_g hw (i := 15) rfl)) (mvT hZ (own_g hw (i := 16) rfl)) (by decide) (backOf (W := 1) (own_rmmv l Z a0 hw [] (la) (kl) (l0) (l1) (l2) (l3) (l4) (l5) (x1) (6) T22.heap n0 Z22 F28) hZ (own_g hw (i := 16) rfl) (own_g hw (i := 15) rfl) (by decide) (by decide)) (g := (mkF m 387 #[iv ln, iv ca, iv cb, iv sh, rv la, rv ra, iv x1, iv x2, iv lo, iv hi, .val (.int 2), rv cs, rv ra, rv rr] [(.int 6), (.int x1), (.ref la), (.int ((((((l0 + l1) + l2) + l3) + l4) + l5) - (own_R l0 l1 l2 l3 l4 l5 x1)))])) rfl (by rw [hml]; rfl) (argsL := [(.ref la), (.int x1), (.int 6)]) (rest := [(.int ((((((l0 + l1) + l2) + l3) + l4) + l5) - (own_R l0 l1 l2 l3 l4 l5 x1)))]) (lenOf own_pd___III_I rfl) rfl (by show 2 * 0 + _ ≤ _; exact Nat.le_of_eq rfl) (hb hby at_387) (fun _ _ => ⟨rfl, e34, (by decide : 4 + 0 ≤ _), (by decide : 19 + 0 ≤ _)⟩)
  dsimp only [Pt.U, Pt.locs, Pt.cells, Pt.slots] at X37 l37 y37 z37 st37 hQ37
  subst l37 y37 z37
  obtain ⟨rfl, N37q, e37⟩ := hQ37
  have N37 := Fr.app N34 N37q
  refine own_S (mkF m 390 #[iv ln, iv ca, iv cb, iv sh, rv la, rv ra, iv x1, iv x2, iv lo, iv hi, .val (.int 2), rv cs, rv ra, rv rr] [(.int (own_moves l0 l1 l2 l3 l4 l5 x1 6)), (.int ((((((l0 + l1) + l2) + l3) + l4) + l5) - (own_R l0 l1 l2 l3 l4 l5 x1)))]) (fun _ k => st37 _ k) ?_
  have hc38 : ((((((l0 + l1) + l2) + l3) + l4) + l5) - (own_R l0 l1 l2 l3 l4 l5 x1)) = (own_moves l0 l1 l2 l3 l4 l5 x1 6) := (own_law l0 l1 l2 l3 l4 l5 _ _ b_x1 own_b6 (own_l6 b_x1))
  refine own_S (mkF m 395 #[iv ln, iv ca, iv cb, iv sh, rv la, rv ra, iv x1, iv x2, iv lo, iv hi, .val (.int 2), rv cs, rv ra, rv rr] []) (fun _ k => XS.icmpYes X37.here hx rfl (pc0 := 390) (pc' := 395) rfl (hb hby at_390) rfl (teq hc38).1 (by decide) (by decide) k) ?_
  refine own_S (mkF m 397 #[iv ln, iv ca, iv cb, iv sh, rv la, rv ra, iv x1, iv x2, iv lo, iv hi, .val (.int 2), rv cs, rv ra, rv rr] [(.int 2)]) (fun _ k => XS.iload X37.here hx rfl (hb hby at_395) rfl k) ?_
  refine own_S (mkF m 398 #[iv ln, iv ca, iv cb, iv sh, rv la, rv ra, iv x1, iv x2, iv lo, iv hi, .val (.int 2), rv cs, rv ra, rv rr] [(.int 3), (.int 2)]) (fun _ k => XS.iconst X37.here hx rfl (hb hby at_397) k) ?_
  have hc39 : (2 : Int32) < (3 : Int32) := by decide
  refine own_S (mkF m 428 #[iv ln, iv ca, iv cb, iv sh, rv la, rv ra, iv x1, iv x2, iv lo, iv hi, .val (.int 2), rv cs, rv ra, rv rr] []) (fun _ k => XS.icmpYes X37.here hx rfl (pc0 := 398) (pc' := 428) rfl (hb hby at_398) rfl (tlt hc39).1 (by decide) (by decide) k) ?_
  refine own_S (mkF m 429 #[iv ln, iv ca, iv cb, iv sh, rv la, rv ra, iv x1, iv x2, iv lo, iv hi, .val (.int 2), rv cs, rv ra, rv rr] [(.int 1)]) (fun _ k => XS.iconst X37.here hx rfl (hb hby at_428) k) ?_
  exact own_retN X37 hx hlk (t := .boolean) hret (by simp) (hb hby at_429) (by rw [e37]; exact ⟨rfl, N37, trivial⟩) (by decide) (by decide)
set_option maxRecDepth 65536 in
set_option maxHeartbeats 40000000 in
theorem own_seg3 (l : Launch) (Z : State) (a0 : Array Value) (hw : ∀ d ∈ tables_1, d.before a0 Z = true) (ln : Int32) (ca : Int32) (cb : Int32) (sh : Int32) (h0 : Heap) (n0 : Nat) (p : Program) (e : Env) (s : State) (m : MethodId) (args : Array Value) (below : List Frame) (meth : Method) (c : Code) (T0 : State) (L0 : List Loc) (hh : Heap) (la : Addr) (ra : Addr) (kl : ClassId) (kr : ClassId) (l0 : Int32) (l1 : Int32) (l2 : Int32) (l3 : Int32) (l4 : Int32) (l5 : Int32) (x1 : Int32) (x2 : Int32) (lo : Int32) (hi : Int32) (hx : p.tables.exec = Jvm.exec) (hby : c.code = code) (hml : c.maxLocals = 14) (hZ : Z.Warmed39 s.vm) (hown : s.vm.findClass "com/example/accrue/accrue/exact/GraphStateRowsPinLaw" = some m.cls) (hlk : meth.locks = false) (hret : meth.sig.returnType = some .boolean) (X0 : Stand p l e room_1 s m args below meth c T0 L0 2 13) (e0 : T0.heap = hh) (N0 : Fr n0 L0) (Z0 : n0 ≤ hh.size) (P0 : own_Ar Z hh la kl .int [(.int l0), (.int l1), (.int l2), (.int l3), (.int l4), (.int l5)]) (P1 : own_Ar Z hh ra kr .int [(.int (0 : Int32)), (.int l0), (.int (l0 + l1)), (.int ((l0 + l1) + l2)), (.int (((l0 + l1) + l2) + l3)), (.int ((((l0 + l1) + l2) + l3) + l4)), (.int (((((l0 + l1) + l2) + l3) + l4) + l5))]) (G_la : n0 ≤ la) (G_ra : n0 ≤ ra) (NE_la_ra : la ≠ ra) (b_x1 : own_B7 x1) (b_lo : own_B7 lo) (b_hi : own_B7 hi) (lohi : ¬ hi < lo) :
    own_E p e below (own_K s (own_Qlaw Z ln ca cb sh h0 n0) room_1.cells room_1.slots) T0 (mkF m 194 #[iv ln, iv ca, iv cb, iv sh, rv la, rv ra, iv x1, iv x2, iv lo, iv hi, .val (.int 3), .unset, .unset, .unset] []) := by
  refine own_S (mkF m 196 #[iv ln, iv ca, iv cb, iv sh, rv la, rv ra, iv x1, iv x2, iv lo, iv hi, .val (.int 3), .unset, .unset, .unset] [(.ref ra)]) (fun _ k => XS.aload X0.here hx rfl (hb hby at_194) rfl rfl k) ?_
  refine own_S (mkF m 198 #[iv ln, iv ca, iv cb, iv sh, rv la, rv ra, iv x1, iv x2, iv lo, iv hi, .val (.int 3), .unset, rv ra, .unset] []) (fun _ k => XS.astore X0.here hx rfl (hb hby at_196) rfl rfl (l' := #[iv ln, iv ca, iv cb, iv sh, rv la, rv ra, iv x1, iv x2, iv lo, iv hi, .val (.int 3), .unset, rv ra, .unset]) rfl k) ?_
  refine own_S (mkF m 200 #[iv ln, iv ca, iv cb, iv sh, rv la, rv ra, iv x1, iv x2, iv lo, iv hi, .val (.int 3), .unset, rv ra, .unset] [(.int 3)]) (fun _ k => XS.iload X0.here hx rfl (hb hby at_198) rfl k) ?_
  have hc1 : ¬ ((3 : Int32) = (0 : Int32)) := by decide
  refine own_S (mkF m 224 #[iv ln, iv ca, iv cb, iv sh, rv la, rv ra, iv x1, iv x2, iv lo, iv hi, .val (.int 3), .unset, rv ra, .unset] []) (fun _ k => XS.ifYes X0.here hx rfl (pc0 := 200) (pc' := 224) rfl (hb hby at_200) rfl ((if0 _ _).trans (feq hc1).2) (by decide) (by decide) k) ?_
  refine own_S (mkF m 226 #[iv ln, iv ca, iv cb, iv sh, rv la, rv ra, iv x1, iv x2, iv lo, iv hi, .val (.int 3), .unset, rv ra, .unset] [(.int 3)]) (fun _ k => XS.iload X0.here hx rfl (hb hby at_224) rfl k) ?_
  refine own_S (mkF m 227 #[iv ln, iv ca, iv cb, iv sh, rv la, rv ra, iv x1, iv x2, iv lo, iv hi, .val (.int 3), .unset, rv ra, .unset] [(.int 1), (.int 3)]) (fun _ k => XS.iconst X0.here hx rfl (hb hby at_226) k) ?_
  have hc2 : ¬ ((3 : Int32) = (1 : Int32)) := by decide
  refine own_S (mkF m 247 #[iv ln, iv ca, iv cb, iv sh, rv la, rv ra, iv x1, iv x2, iv lo, iv hi, .val (.int 3), .unset, rv ra, .unset] []) (fun _ k => XS.icmpYes X0.here hx rfl (pc0 := 227) (pc' := 247) rfl (hb hby at_227) rfl (feq hc2).2 (by decide) (by decide) k) ?_
  refine own_S (mkF m 249 #[iv ln, iv ca, iv cb, iv sh, rv la, rv ra, iv x1, iv x2, iv lo, iv hi, .val (.int 3), .unset, rv ra, .unset] [(.int 3)]) (fun _ k => XS.iload X0.here hx rfl (hb hby at_247) rfl k) ?_
  refine own_S (mkF m 250 #[iv ln, iv ca, iv cb, iv sh, rv la, rv ra, iv x1, iv x2, iv lo, iv hi, .val (.int 3), .unset, rv ra, .unset] [(.int 2), (.int 3)]) (fun _ k => XS.iconst X0.here hx rfl (hb hby at_249) k) ?_
  have hc3 : ¬ ((3 : Int32) = (2 : Int32)) := by decide
  refine own_S (mkF m 275 #[iv ln, iv ca, iv cb, iv sh, rv la, rv ra, iv x1, iv x2, iv lo, iv hi, .val (.int 3), .unset, rv ra, .unset] []) (fun _ k => XS.icmpYes X0.here hx rfl (pc0 := 250) (pc' := 275) rfl (hb hby at_250) rfl (feq hc3).2 (by decide) (by decide) k) ?_
  refine own_S (mkF m 276 #[iv ln, iv ca, iv cb, iv sh, rv la, rv ra, iv x1, iv x2, iv lo, iv hi, .val (.int 3), .unset, rv ra, .unset] [(.int 4)]) (fun _ k => XS.iconst X0.here hx rfl (hb hby at_275) k) ?_
  obtain ⟨T4, h4, cA4, X4, e4, E4, A4, st4⟩ := newP X0 hx hZ (own_g hw (i := 0) rfl) e0 (g := (mkF m 276 #[iv ln, iv ca, iv cb, iv sh, rv la, rv ra, iv x1, iv x2, iv lo, iv hi, .val (.int 3), .unset, rv ra, .unset] [(.int 4)])) rfl (hb hby at_276) rfl (by decide) (cap := 4) (by decide) (by decide) (by decide) (by decide)
  obtain ⟨cs, g4⟩ : ∃ z, z = hh.size := ⟨_, rfl⟩
  rw [← g4] at A4 st4
  have n5 : la ≠ cs := Nat.ne_of_lt (Nat.lt_of_lt_of_eq P0.lt g4.symm)
  have n6 : ra ≠ cs := Nat.ne_of_lt (Nat.lt_of_lt_of_eq P1.lt g4.symm)
  have ge_cs : n0 ≤ cs := Nat.le_trans Z0 (Nat.le_of_eq g4.symm)
  have F7 := P0.ext E4
  have F8 := P1.ext E4
  have Z4 : n0 ≤ h4.size := Nat.le_trans Z0 E4.1
  have F9 : own_Ar Z h4 cs cA4 .int [(.int (0 : Int32)), (.int (0 : Int32)), (.int (0 : Int32)), (.int (0 : Int32))] := own_Ar.new A4 rfl
  refine own_S (mkF m 278 #[iv ln, iv ca, iv cb, iv sh, rv la, rv ra, iv x1, iv x2, iv lo, iv hi, .val (.int 3), .unset, rv ra, .unset] [(.ref cs)]) st4 ?_
  refine own_S (mkF m 279 #[iv ln, iv ca, iv cb, iv sh, rv la, rv ra, iv x1, iv x2, iv lo, iv hi, .val (.int 3), .unset, rv ra, .unset] [(.ref cs), (.ref cs)]) (fun _ k => XS.dup X4.here hx rfl (hb hby at_278) rfl rfl k) ?_
  refine own_S (mkF m 280 #[iv ln, iv ca, iv cb, iv sh, rv la, rv ra, iv x1, iv x2, iv lo, iv hi, .val (.int 3), .unset, rv ra, .unset] [(.int 0), (.ref cs), (.ref cs)]) (fun _ k => XS.iconst X4.here hx rfl (hb hby at_279) k) ?_
  refine own_S (mkF m 281 #[iv ln, iv ca, iv cb, iv sh, rv la, rv ra, iv x1, iv x2, iv lo, iv hi, .val (.int 3), .unset, rv ra, .unset] [(.int 0), (.int 0), (.ref cs), (.ref cs)]) (fun _ k => XS.iconst X4.here hx rfl (hb hby at_280) k) ?_
  obtain ⟨T10, h10, X10, e10, W10, AR10, st10⟩ := own_stI (j := (0 : Int32)) X4 hx hZ e4 F9 (by decide) (show (0 : Nat) < 4 from by decide) (g := (mkF m 281 #[iv ln, iv ca, iv cb, iv sh, rv la, rv ra, iv x1, iv x2, iv lo, iv hi, .val (.int 3), .unset, rv ra, .unset] [(.int 0), (.int 0), (.ref cs), (.ref cs)])) rfl rfl (hb hby at_281)
  refine own_S (mkF m 282 #[iv ln, iv ca, iv cb, iv sh, rv la, rv ra, iv x1, iv x2, iv lo, iv hi, .val (.int 3), .unset, rv ra, .unset] [(.ref cs)]) st10 ?_
  have F11 := F7.other W10 n5
  have F12 := F8.other W10 n6
  have F13 : own_Ar Z h10 cs cA4 .int [(.int 0), (.int (0 : Int32)), (.int (0 : Int32)), (.int (0 : Int32))] := AR10
  have N10 := Fr.snoc X10 N0 ge_cs
  have Z10 : n0 ≤ h10.size := by rw [Wr.size W10]; exact Z4
  refine own_S (mkF m 283 #[iv ln, iv ca, iv cb, iv sh, rv la, rv ra, iv x1, iv x2, iv lo, iv hi, .val (.int 3), .unset, rv ra, .unset] [(.ref cs), (.ref cs)]) (fun _ k => XS.dup X10.here hx rfl (hb hby at_282) rfl rfl k) ?_
  refine own_S (mkF m 284 #[iv ln, iv ca, iv cb, iv sh, rv la, rv ra, iv x1, iv x2, iv lo, iv hi, .val (.int 3), .unset, rv ra, .unset] [(.int 1), (.ref cs), (.ref cs)]) (fun _ k => XS.iconst X10.here hx rfl (hb hby at_283) k) ?_
  refine own_S (mkF m 286 #[iv ln, iv ca, iv cb, iv sh, rv la, rv ra, iv x1, iv x2, iv lo, iv hi, .val (.int 3), .unset, rv ra, .unset] [(.int lo), (.int 1), (.ref cs), (.ref cs)]) (fun _ k => XS.iload X10.here hx rfl (hb hby at_284) rfl k) ?_
  obtain ⟨T14, h14, X14, e14, W14, AR14, st14⟩ := own_stI (j := (1 : Int32)) X10 hx hZ e10 F13 (by decide) (show (1 : Nat) < 4 from by decide) (g := (mkF m 286 #[iv ln, iv ca, iv cb, iv sh, rv la, rv ra, iv x1, iv x2, iv lo, iv hi, .val (.int 3), .unset, rv ra, .unset] [(.int lo), (.int 1), (.ref cs), (.ref cs)])) rfl rfl (hb hby at_286)
  refine own_S (mkF m 287 #[iv ln, iv ca, iv cb, iv sh, rv la, rv ra, iv x1, iv x2, iv lo, iv hi, .val (.int 3), .unset, rv ra, .unset] [(.ref cs)]) st14 ?_
  have F15 := F11.other W14 n5
  have F16 := F12.other W14 n6
  have F17 : own_Ar Z h14 cs cA4 .int [(.int 0), (.int lo), (.int (0 : Int32)), (.int (0 : Int32))] := AR14
  have N14 := Fr.snoc X14 N10 ge_cs
  have Z14 : n0 ≤ h14.size := by rw [Wr.size W14]; exact Z10
  refine own_S (mkF m 288 #[iv ln, iv ca, iv cb, iv sh, rv la, rv ra, iv x1, iv x2, iv lo, iv hi, .val (.int 3), .unset, rv ra, .unset] [(.ref cs), (.ref cs)]) (fun _ k => XS.dup X14.here hx rfl (hb hby at_287) rfl rfl k) ?_
  refine own_S (mkF m 289 #[iv ln, iv ca, iv cb, iv sh, rv la, rv ra, iv x1, iv x2, iv lo, iv hi, .val (.int 3), .unset, rv ra, .unset] [(.int 2), (.ref cs), (.ref cs)]) (fun _ k => XS.iconst X14.here hx rfl (hb hby at_288) k) ?_
  refine own_S (mkF m 291 #[iv ln, iv ca, iv cb, iv sh, rv la, rv ra, iv x1, iv x2, iv lo, iv hi, .val (.int 3), .unset, rv ra, .unset] [(.int hi), (.int 2), (.ref cs), (.ref cs)]) (fun _ k => XS.iload X14.here hx rfl (hb hby at_289) rfl k) ?_
  obtain ⟨T18, h18, X18, e18, W18, AR18, st18⟩ := own_stI (j := (2 : Int32)) X14 hx hZ e14 F17 (by decide) (show (2 : Nat) < 4 from by decide) (g := (mkF m 291 #[iv ln, iv ca, iv cb, iv sh, rv la, rv ra, iv x1, iv x2, iv lo, iv hi, .val (.int 3), .unset, rv ra, .unset] [(.int hi), (.int 2), (.ref cs), (.ref cs)])) rfl rfl (hb hby at_291)
  refine own_S (mkF m 292 #[iv ln, iv ca, iv cb, iv sh, rv la, rv ra, iv x1, iv x2, iv lo, iv hi, .val (.int 3), .unset, rv ra, .unset] [(.ref cs)]) st18 ?_
  have F19 := F15.other W18 n5
  have F20 := F16.other W18 n6
  have F21 : own_Ar Z h18 cs cA4 .int [(.int 0), (.int lo), (.int hi), (.int (0 : Int32))] := AR18
  have N18 := Fr.snoc X18 N14 ge_cs
  have Z18 : n0 ≤ h18.size := by rw [Wr.size W18]; exact Z14
  refine own_S (mkF m 293 #[iv ln, iv ca, iv cb, iv sh, rv la, rv ra, iv x1, iv x2, iv lo, iv hi, .val (.int 3), .unset, rv ra, .unset] [(.ref cs), (.ref cs)]) (fun _ k => XS.dup X18.here hx rfl (hb hby at_292) rfl rfl k) ?_
  refine own_S (mkF m 294 #[iv ln, iv ca, iv cb, iv sh, rv la, rv ra, iv x1, iv x2, iv lo, iv hi, .val (.int 3), .unset, rv ra, .unset] [(.int 3), (.ref cs), (.ref cs)]) (fun _ k => XS.iconst X18.here hx rfl (hb hby at_293) k) ?_
  refine own_S (mkF m 296 #[iv ln, iv ca, iv cb, iv sh, rv la, rv ra, iv x1, iv x2, iv lo, iv hi, .val (.int 3), .unset, rv ra, .unset] [(.int 6), (.int 3), (.ref cs), (.ref cs)]) (fun _ k => XS.bipush X18.here hx rfl (hb hby at_294) k) ?_
  obtain ⟨T22, h22, X22, e22, W22, AR22, st22⟩ := own_stI (j := (3 : Int32)) X18 hx hZ e18 F21 (by decide) (show (3 : Nat) < 4 from by decide) (g := (mkF m 296 #[iv ln, iv ca, iv cb, iv sh, rv la, rv ra, iv x1, iv x2, iv lo, iv hi, .val (.int 3), .unset, rv ra, .unset] [(.int 6), (.int 3), (.ref cs), (.ref cs)])) rfl rfl (hb hby at_296)
  refine own_S (mkF m 297 #[iv ln, iv ca, iv cb, iv sh, rv la, rv ra, iv x1, iv x2, iv lo, iv hi, .val (.int 3), .unset, rv ra, .unset] [(.ref cs)]) st22 ?_
  have F23 := F19.other W22 n5
  have F24 := F20.other W22 n6
  have F25 : own_Ar Z h22 cs cA4 .int [(.int 0), (.int lo), (.int hi), (.int 6)] := AR22
  have N22 := Fr.snoc X22 N18 ge_cs
  have Z22 : n0 ≤ h22.size := by rw [Wr.size W22]; exact Z18
  refine own_S (mkF m 299 #[iv ln, iv ca, iv cb, iv sh, rv la, rv ra, iv x1, iv x2, iv lo, iv hi, .val (.int 3), rv cs, rv ra, .unset] []) (fun _ k => XS.astore X22.here hx rfl (hb hby at_297) rfl rfl (l' := #[iv ln, iv ca, iv cb, iv sh, rv la, rv ra, iv x1, iv x2, iv lo, iv hi, .val (.int 3), rv cs, rv ra, .unset]) rfl k) ?_
  refine own_S (mkF m 301 #[iv ln, iv ca, iv cb, iv sh, rv la, rv ra, iv x1, iv x2, iv lo, iv hi, .val (.int 3), rv cs, rv ra, .unset] [(.ref cs)]) (fun _ k => XS.aload X22.here hx rfl (hb hby at_299) rfl rfl k) ?_
  refine own_S (mkF m 303 #[iv ln, iv ca, iv cb, iv sh, rv la, rv ra, iv x1, iv x2, iv lo, iv hi, .val (.int 3), rv cs, rv ra, .unset] [(.ref ra), (.ref cs)]) (fun _ k => XS.aload X22.here hx rfl (hb hby at_301) rfl rfl k) ?_
  obtain ⟨_, _, ⟨T26, L26, k26, n26⟩, -, X26, ⟨Lc26, hQ26, l26, y26, z26⟩, st26⟩ := Jvm.LawKit.callS X22 hx (y := own_y3) hown (mvT hZ (own_g hw (i := 9) rfl)) (mvT hZ (own_g hw (i := 10) rfl)) (mvT hZ (own_g hw (i := 11) rfl)) (mvT hZ (own_g hw (i := 12) rfl)) (by decide) (backOf (W := 0) (own_rmsr3 l Z a0 hw [] (cs) (ra) (cA4) (kr) (lo) (hi) ((own_R l0 l1 l2 l3 l4 l5 lo)) ((own_R l0 l1 l2 l3 l4 l5 hi)) (l0) ((l0 + l1)) (((l0 + l1) + l2)) ((((l0 + l1) + l2) + l3)) (((((l0 + l1) + l2) + l3) + l4)) ((((((l0 + l1) + l2) + l3) + l4) + l5)) h22 n0 Z22 F25 F24 b_lo.1 (own_Rat l0 l1 l2 l3 l4 l5 lo b_lo) b_hi.1 (own_Rat l0 l1 l2 l3 l4 l5 hi b_hi)) hZ (own_g hw (i := 12) rfl) (own_g hw (i := 11) rfl) (by decide) (by decide)) (g := (mkF m 303 #[iv ln, iv ca, iv cb, iv sh, rv la, rv ra, iv x1, iv x2, iv lo, iv hi, .val (.int 3), rv cs, rv ra, .unset] [(.ref ra), (.ref cs)])) rfl (by rw [hml]; rfl) (argsL := [(.ref cs), (.ref ra)]) (rest := []) (lenOf own_pd___I_I__I rfl) rfl (by show 2 * 0 + _ ≤ _; exact Nat.le_of_eq rfl) (hb hby at_303) (fun _ _ => ⟨rfl, e22, (by decide : 3 + 1 ≤ _), (by decide : 17 + 4 ≤ _)⟩)
  dsimp only [Pt.U, Pt.locs, Pt.cells, Pt.slots] at X26 l26 y26 z26 st26 hQ26
  subst l26 y26 z26
  obtain ⟨rr, kx, rfl, N26q, K26q, F27, pp28⟩ := hQ26
  have N26 := Fr.app N22 N26q
  refine own_S (mkF m 306 #[iv ln, iv ca, iv cb, iv sh, rv la, rv ra, iv x1, iv x2, iv lo, iv hi, .val (.int 3), rv cs, rv ra, .unset] [(.ref rr)]) (fun _ k => st26 _ k) ?_
  have n29 : la ≠ rr := Nat.ne_of_lt (Nat.lt_of_lt_of_le F23.lt pp28)
  have n30 : ra ≠ rr := Nat.ne_of_lt (Nat.lt_of_lt_of_le F24.lt pp28)
  have n31 : cs ≠ rr := Nat.ne_of_lt (Nat.lt_of_lt_of_le F25.lt pp28)
  have ge_rr : n0 ≤ rr := Nat.le_trans Z22 pp28
  have F32 := F23.keep K26q nin0
  have F33 := F24.keep K26q nin0
  have F34 := F25.keep K26q nin0
  have Z26 : n0 ≤ T26.heap.size := Nat.le_trans Z22 K26q.1
  refine own_S (mkF m 308 #[iv ln, iv ca, iv cb, iv sh, rv la, rv ra, iv x1, iv x2, iv lo, iv hi, .val (.int 3), rv cs, rv ra, rv rr] []) (fun _ k => XS.astore X26.here hx rfl (hb hby at_306) rfl rfl (l' := #[iv ln, iv ca, iv cb, iv sh, rv la, rv ra, iv x1, iv x2, iv lo, iv hi, .val (.int 3), rv cs, rv ra, rv rr]) rfl k) ?_
  refine own_S (mkF m 310 #[iv ln, iv ca, iv cb, iv sh, rv la, rv ra, iv x1, iv x2, iv lo, iv hi, .val (.int 3), rv cs, rv ra, rv rr] [(.ref rr)]) (fun _ k => XS.aload X26.here hx rfl (hb hby at_308) rfl rfl k) ?_
  refine own_S (mkF m 311 #[iv ln, iv ca, iv cb, iv sh, rv la, rv ra, iv x1, iv x2, iv lo, iv hi, .val (.int 3), rv cs, rv ra, rv rr] [(.int 4)]) (fun _ k => own_alen X26 hx hZ rfl F27 (g := (mkF m 310 #[iv ln, iv ca, iv cb, iv sh, rv la, rv ra, iv x1, iv x2, iv lo, iv hi, .val (.int 3), rv cs, rv ra, rv rr] [(.ref rr)])) rfl rfl (hb hby at_310) _ k) ?_
  refine own_S (mkF m 313 #[iv ln, iv ca, iv cb, iv sh, rv la, rv ra, iv x1, iv x2, iv lo, iv hi, .val (.int 3), rv cs, rv ra, rv rr] [(.int 3), (.int 4)]) (fun _ k => XS.iload X26.here hx rfl (hb hby at_311) rfl k) ?_
  refine own_S (mkF m 314 #[iv ln, iv ca, iv cb, iv sh, rv la, rv ra, iv x1, iv x2, iv lo, iv hi, .val (.int 3), rv cs, rv ra, rv rr] [(.int 1), (.int 3), (.int 4)]) (fun _ k => XS.iconst X26.here hx rfl (hb hby at_313) k) ?_
  refine own_S (mkF m 315 #[iv ln, iv ca, iv cb, iv sh, rv la, rv ra, iv x1, iv x2, iv lo, iv hi, .val (.int 3), rv cs, rv ra, rv rr] [(.int 4), (.int 4)]) (fun _ k => XS.iadd X26.here hx rfl (hb hby at_314) rfl k) ?_
  have hc35 : (4 : Int32) = (4 : Int32) := by decide
  refine own_S (mkF m 320 #[iv ln, iv ca, iv cb, iv sh, rv la, rv ra, iv x1, iv x2, iv lo, iv hi, .val (.int 3), rv cs, rv ra, rv rr] []) (fun _ k => XS.icmpYes X26.here hx rfl (pc0 := 315) (pc' := 320) rfl (hb hby at_315) rfl (teq hc35).1 (by decide) (by decide) k) ?_
  refine own_S (mkF m 322 #[iv ln, iv ca, iv cb, iv sh, rv la, rv ra, iv x1, iv x2, iv lo, iv hi, .val (.int 3), rv cs, rv ra, rv rr] [(.ref rr)]) (fun _ k => XS.aload X26.here hx rfl (hb hby at_320) rfl rfl k) ?_
  refine own_S (mkF m 323 #[iv ln, iv ca, iv cb, iv sh, rv la, rv ra, iv x1, iv x2, iv lo, iv hi, .val (.int 3), rv cs, rv ra, rv rr] [(.int 0), (.ref rr)]) (fun _ k => XS.iconst X26.here hx rfl (hb hby at_322) k) ?_
  refine own_S (mkF m 324 #[iv ln, iv ca, iv cb, iv sh, rv la, rv ra, iv x1, iv x2, iv lo, iv hi, .val (.int 3), rv cs, rv ra, rv rr] [(.int 0)]) (fun _ k => own_ldI X26 hx hZ rfl F27 (by decide) rfl (g := (mkF m 323 #[iv ln, iv ca, iv cb, iv sh, rv la, rv ra, iv x1, iv x2, iv lo, iv hi, .val (.int 3), rv cs, rv ra, rv rr] [(.int 0), (.ref rr)])) rfl rfl (hb hby at_323) _ k) ?_
  have hc36 : (0 : Int32) = (0 : Int32) := by decide
  refine own_S (mkF m 329 #[iv ln, iv ca, iv cb, iv sh, rv la, rv ra, iv x1, iv x2, iv lo, iv hi, .val (.int 3), rv cs, rv ra, rv rr] []) (fun _ k => XS.ifYes X26.here hx rfl (pc0 := 324) (pc' := 329) rfl (hb hby at_324) rfl ((if0 _ _).trans (teq hc36).1) (by decide) (by decide) k) ?_
  refine own_S (mkF m 331 #[iv ln, iv ca, iv cb, iv sh, rv la, rv ra, iv x1, iv x2, iv lo, iv hi, .val (.int 3), rv cs, rv ra, rv rr] [(.int 3)]) (fun _ k => XS.iload X26.here hx rfl (hb hby at_329) rfl k) ?_
  refine own_S (mkF m 332 #[iv ln, iv ca, iv cb, iv sh, rv la, rv ra, iv x1, iv x2, iv lo, iv hi, .val (.int 3), rv cs, rv ra, rv rr] [(.int 1), (.int 3)]) (fun _ k => XS.iconst X26.here hx rfl (hb hby at_331) k) ?_
  have hc37 : ¬ ((3 : Int32) < (1 : Int32)) := by decide
  refine own_S (mkF m 335 #[iv ln, iv ca, iv cb, iv sh, rv la, rv ra, iv x1, iv x2, iv lo, iv hi, .val (.int 3), rv cs, rv ra, rv rr] []) (fun _ k => XS.icmpNo X26.here hx rfl (hb hby at_332) rfl (flt hc37).1 k) ?_
  refine own_S (mkF m 337 #[iv ln, iv ca, iv cb, iv sh, rv la, rv ra, iv x1, iv x2, iv lo, iv hi, .val (.int 3), rv cs, rv ra, rv rr] [(.ref rr)]) (fun _ k => XS.aload X26.here hx rfl (hb hby at_335) rfl rfl k) ?_
  refine own_S (mkF m 338 #[iv ln, iv ca, iv cb, iv sh, rv la, rv ra, iv x1, iv x2, iv lo, iv hi, .val (.int 3), rv cs, rv ra, rv rr] [(.int 1), (.ref rr)]) (fun _ k => XS.iconst X26.here hx rfl (hb hby at_337) k) ?_
  refine own_S (mkF m 339 #[iv ln, iv ca, iv cb, iv sh, rv la, rv ra, iv x1, iv x2, iv lo, iv hi, .val (.int 3), rv cs, rv ra, rv rr] [(.int (own_R l0 l1 l2 l3 l4 l5 lo))]) (fun _ k => own_ldI X26 hx hZ rfl F27 (by decide) rfl (g := (mkF m 338 #[iv ln, iv ca, iv cb, iv sh, rv la, rv ra, iv x1, iv x2, iv lo, iv hi, .val (.int 3), rv cs, rv ra, rv rr] [(.int 1), (.ref rr)])) rfl rfl (hb hby at_338) _ k) ?_
  refine own_S (mkF m 341 #[iv ln, iv ca, iv cb, iv sh, rv la, rv ra, iv x1, iv x2, iv lo, iv hi, .val (.int 3), rv cs, rv ra, rv rr] [(.ref rr), (.int (own_R l0 l1 l2 l3 l4 l5 lo))]) (fun _ k => XS.aload X26.here hx rfl (hb hby at_339) rfl rfl k) ?_
  refine own_S (mkF m 342 #[iv ln, iv ca, iv cb, iv sh, rv la, rv ra, iv x1, iv x2, iv lo, iv hi, .val (.int 3), rv cs, rv ra, rv rr] [(.int 0), (.ref rr), (.int (own_R l0 l1 l2 l3 l4 l5 lo))]) (fun _ k => XS.iconst X26.here hx rfl (hb hby at_341) k) ?_
  refine own_S (mkF m 343 #[iv ln, iv ca, iv cb, iv sh, rv la, rv ra, iv x1, iv x2, iv lo, iv hi, .val (.int 3), rv cs, rv ra, rv rr] [(.int 0), (.int (own_R l0 l1 l2 l3 l4 l5 lo))]) (fun _ k => own_ldI X26 hx hZ rfl F27 (by decide) rfl (g := (mkF m 342 #[iv ln, iv ca, iv cb, iv sh, rv la, rv ra, iv x1, iv x2, iv lo, iv hi, .val (.int 3), rv cs, rv ra, rv rr] [(.int 0), (.ref rr), (.int (own_R l0 l1 l2 l3 l4 l5 lo))])) rfl rfl (hb hby at_342) _ k) ?_
  refine own_S (mkF m 344 #[iv ln, iv ca, iv cb, iv sh, rv la, rv ra, iv x1, iv x2, iv lo, iv hi, .val (.int 3), rv cs, rv ra, rv rr] [(.int ((own_R l0 l1 l2 l3 l4 l5 lo) - (0 : Int32)))]) (fun _ k => XS.isub X26.here hx rfl (hb hby at_343) rfl k) ?_
  refine own_S (mkF m 346 #[iv ln, iv ca, iv cb, iv sh, rv la, rv ra, iv x1, iv x2, iv lo, iv hi, .val (.int 3), rv cs, rv ra, rv rr] [(.ref la), (.int ((own_R l0 l1 l2 l3 l4 l5 lo) - (0 : Int32)))]) (fun _ k => XS.aload X26.here hx rfl (hb hby at_344) rfl rfl k) ?_
  refine own_S (mkF m 348 #[iv ln, iv ca, iv cb, iv sh, rv la, rv ra, iv x1, iv x2, iv lo, iv hi, .val (.int 3), rv cs, rv ra, rv rr] [(.ref cs), (.ref la), (.int ((own_R l0 l1 l2 l3 l4 l5 lo) - (0 : Int32)))]) (fun _ k => XS.aload X26.here hx rfl (hb hby at_346) rfl rfl k) ?_
  refine own_S (mkF m 349 #[iv ln, iv ca, iv cb, iv sh, rv la, rv ra, iv x1, iv x2, iv lo, iv hi, .val (.int 3), rv cs, rv ra, rv rr] [(.int 0), (.ref cs), (.ref la), (.int ((own_R l0 l1 l2 l3 l4 l5 lo) - (0 : Int32)))]) (fun _ k => XS.iconst X26.here hx rfl (hb hby at_348) k) ?_
  refine own_S (mkF m 350 #[iv ln, iv ca, iv cb, iv sh, rv la, rv ra, iv x1, iv x2, iv lo, iv hi, .val (.int 3), rv cs, rv ra, rv rr] [(.int 0), (.ref la), (.int ((own_R l0 l1 l2 l3 l4 l5 lo) - (0 : Int32)))]) (fun _ k => own_ldI X26 hx hZ rfl F34 (by decide) rfl (g := (mkF m 349 #[iv ln, iv ca, iv cb, iv sh, rv la, rv ra, iv x1, iv x2, iv lo, iv hi, .val (.int 3), rv cs, rv ra, rv rr] [(.int 0), (.ref cs), (.ref la), (.int ((own_R l0 l1 l2 l3 l4 l5 lo) - (0 : Int32)))])) rfl rfl (hb hby at_349) _ k) ?_
  refine own_S (mkF m 352 #[iv ln, iv ca, iv cb, iv sh, rv la, rv ra, iv x1, iv x2, iv lo, iv hi, .val (.int 3), rv cs, rv ra, rv rr] [(.ref cs), (.int 0), (.ref la), (.int ((own_R l0 l1 l2 l3 l4 l5 lo) - (0 : Int32)))]) (fun _ k => XS.aload X26.here hx rfl (hb hby at_350) rfl rfl k) ?_
  refine own_S (mkF m 353 #[iv ln, iv ca, iv cb, iv sh, rv la, rv ra, iv x1, iv x2, iv lo, iv hi, .val (.int 3), rv cs, rv ra, rv rr] [(.int 1), (.ref cs), (.int 0), (.ref la), (.int ((own_R l0 l1 l2 l3 l4 l5 lo) - (0 : Int32)))]) (fun _ k => XS.iconst X26.here hx rfl (hb hby at_352) k) ?_
  refine own_S (mkF m 354 #[iv ln, iv ca, iv cb, iv sh, rv la, rv ra, iv x1, iv x2, iv lo, iv hi, .val (.int 3), rv cs, rv ra, rv rr] [(.int lo), (.int 0), (.ref la), (.int ((own_R l0 l1 l2 l3 l4 l5 lo) - (0 : Int32)))]) (fun _ k => own_ldI X26 hx hZ rfl F34 (by decide) rfl (g := (mkF m 353 #[iv ln, iv ca, iv cb, iv sh, rv la, rv ra, iv x1, iv x2, iv lo, iv hi, .val (.int 3), rv cs, rv ra, rv rr] [(.int 1), (.ref cs), (.int 0), (.ref la), (.int ((own_R l0 l1 l2 l3 l4 l5 lo) - (0 : Int32)))])) rfl rfl (hb hby at_353) _ k) ?_
  obtain ⟨_, _, ⟨T38, L38, k38, n38⟩, -, X38, ⟨Lc38, hQ38, l38, y38, z38⟩, st38⟩ := Jvm.LawKit.callS X26 hx (y := own_y2) hown (mvT hZ (own_g hw (i := 13) rfl)) (mvT hZ (own_g hw (i := 14) rfl)) (mvT hZ (own_g hw (i := 15) rfl)) (mvT hZ (own_g hw (i := 16) rfl)) (by decide) (backOf (W := 1) (own_rmmv l Z a0 hw [] (la) (kl) (l0) (l1) (l2) (l3) (l4) (l5) (0) (lo) T26.heap n0 Z26 F32) hZ (own_g hw (i := 16) rfl) (own_g hw (i := 15) rfl) (by decide) (by decide)) (g := (mkF m 354 #[iv ln, iv ca, iv cb, iv sh, rv la, rv ra, iv x1, iv x2, iv lo, iv hi, .val (.int 3), rv cs, rv ra, rv rr] [(.int lo), (.int 0), (.ref la), (.int ((own_R l0 l1 l2 l3 l4 l5 lo) - (0 : Int32)))])) rfl (by rw [hml]; rfl) (argsL := [(.ref la), (.int 0), (.int lo)]) (rest := [(.int ((own_R l0 l1 l2 l3 l4 l5 lo) - (0 : Int32)))]) (lenOf own_pd___III_I rfl) rfl (by show 2 * 0 + _ ≤ _; exact Nat.le_of_eq rfl) (hb hby at_354) (fun _ _ => ⟨rfl, rfl, (by decide : 4 + 0 ≤ _), (by decide : 21 + 0 ≤ _)⟩)
  dsimp only [Pt.U, Pt.locs, Pt.cells, Pt.slots] at X38 l38 y38 z38 st38 hQ38
  subst l38 y38 z38
  obtain ⟨rfl, N38q, e38⟩ := hQ38
  have N38 := Fr.app N26 N38q
  refine own_S (mkF m 357 #[iv ln, iv ca, iv cb, iv sh, rv la, rv ra, iv x1, iv x2, iv lo, iv hi, .val (.int 3), rv cs, rv ra, rv rr] [(.int (own_moves l0 l1 l2 l3 l4 l5 0 lo)), (.int ((own_R l0 l1 l2 l3 l4 l5 lo) - (0 : Int32)))]) (fun _ k => st38 _ k) ?_
  have hc39 : ((own_R l0 l1 l2 l3 l4 l5 lo) - (0 : Int32)) = (own_moves l0 l1 l2 l3 l4 l5 0 lo) := (own_law l0 l1 l2 l3 l4 l5 _ _ own_b0 b_lo (own_l0 b_lo))
  refine own_S (mkF m 362 #[iv ln, iv ca, iv cb, iv sh, rv la, rv ra, iv x1, iv x2, iv lo, iv hi, .val (.int 3), rv cs, rv ra, rv rr] []) (fun _ k => XS.icmpYes X38.here hx rfl (pc0 := 357) (pc' := 362) rfl (hb hby at_357) rfl (teq hc39).1 (by decide) (by decide) k) ?_
  refine own_S (mkF m 364 #[iv ln, iv ca, iv cb, iv sh, rv la, rv ra, iv x1, iv x2, iv lo, iv hi, .val (.int 3), rv cs, rv ra, rv rr] [(.int 3)]) (fun _ k => XS.iload X38.here hx rfl (hb hby at_362) rfl k) ?_
  refine own_S (mkF m 365 #[iv ln, iv ca, iv cb, iv sh, rv la, rv ra, iv x1, iv x2, iv lo, iv hi, .val (.int 3), rv cs, rv ra, rv rr] [(.int 2), (.int 3)]) (fun _ k => XS.iconst X38.here hx rfl (hb hby at_364) k) ?_
  have hc40 : ¬ ((3 : Int32) < (2 : Int32)) := by decide
  refine own_S (mkF m 368 #[iv ln, iv ca, iv cb, iv sh, rv la, rv ra, iv x1, iv x2, iv lo, iv hi, .val (.int 3), rv cs, rv ra, rv rr] []) (fun _ k => XS.icmpNo X38.here hx rfl (hb hby at_365) rfl (flt hc40).1 k) ?_
  refine own_S (mkF m 370 #[iv ln, iv ca, iv cb, iv sh, rv la, rv ra, iv x1, iv x2, iv lo, iv hi, .val (.int 3), rv cs, rv ra, rv rr] [(.ref rr)]) (fun _ k => XS.aload X38.here hx rfl (hb hby at_368) rfl rfl k) ?_
  refine own_S (mkF m 371 #[iv ln, iv ca, iv cb, iv sh, rv la, rv ra, iv x1, iv x2, iv lo, iv hi, .val (.int 3), rv cs, rv ra, rv rr] [(.int 2), (.ref rr)]) (fun _ k => XS.iconst X38.here hx rfl (hb hby at_370) k) ?_
  refine own_S (mkF m 372 #[iv ln, iv ca, iv cb, iv sh, rv la, rv ra, iv x1, iv x2, iv lo, iv hi, .val (.int 3), rv cs, rv ra, rv rr] [(.int (own_R l0 l1 l2 l3 l4 l5 hi))]) (fun _ k => own_ldI X38 hx hZ e38 F27 (by decide) rfl (g := (mkF m 371 #[iv ln, iv ca, iv cb, iv sh, rv la, rv ra, iv x1, iv x2, iv lo, iv hi, .val (.int 3), rv cs, rv ra, rv rr] [(.int 2), (.ref rr)])) rfl rfl (hb hby at_371) _ k) ?_
  refine own_S (mkF m 374 #[iv ln, iv ca, iv cb, iv sh, rv la, rv ra, iv x1, iv x2, iv lo, iv hi, .val (.int 3), rv cs, rv ra, rv rr] [(.ref rr), (.int (own_R l0 l1 l2 l3 l4 l5 hi))]) (fun _ k => XS.aload X38.here hx rfl (hb hby at_372) rfl rfl k) ?_
  refine own_S (mkF m 375 #[iv ln, iv ca, iv cb, iv sh, rv la, rv ra, iv x1, iv x2, iv lo, iv hi, .val (.int 3), rv cs, rv ra, rv rr] [(.int 1), (.ref rr), (.int (own_R l0 l1 l2 l3 l4 l5 hi))]) (fun _ k => XS.iconst X38.here hx rfl (hb hby at_374) k) ?_
  refine own_S (mkF m 376 #[iv ln, iv ca, iv cb, iv sh, rv la, rv ra, iv x1, iv x2, iv lo, iv hi, .val (.int 3), rv cs, rv ra, rv rr] [(.int (own_R l0 l1 l2 l3 l4 l5 lo)), (.int (own_R l0 l1 l2 l3 l4 l5 hi))]) (fun _ k => own_ldI X38 hx hZ e38 F27 (by decide) rfl (g := (mkF m 375 #[iv ln, iv ca, iv cb, iv sh, rv la, rv ra, iv x1, iv x2, iv lo, iv hi, .val (.int 3), rv cs, rv ra, rv rr] [(.int 1), (.ref rr), (.int (own_R l0 l1 l2 l3 l4 l5 hi))])) rfl rfl (hb hby at_375) _ k) ?_
  refine own_S (mkF m 377 #[iv ln, iv ca, iv cb, iv sh, rv la, rv ra, iv x1, iv x2, iv lo, iv hi, .val (.int 3), rv cs, rv ra, rv rr] [(.int ((own_R l0 l1 l2 l3 l4 l5 hi) - (own_R l0 l1 l2 l3 l4 l5 lo)))]) (fun _ k => XS.isub X38.here hx rfl (hb hby at_376) rfl k) ?_
  refine own_S (mkF m 379 #[iv ln, iv ca, iv cb, iv sh, rv la, rv ra, iv x1, iv x2, iv lo, iv hi, .val (.int 3), rv cs, rv ra, rv rr] [(.ref la), (.int ((own_R l0 l1 l2 l3 l4 l5 hi) - (own_R l0 l1 l2 l3 l4 l5 lo)))]) (fun _ k => XS.aload X38.here hx rfl (hb hby at_377) rfl rfl k) ?_
  refine own_S (mkF m 381 #[iv ln, iv ca, iv cb, iv sh, rv la, rv ra, iv x1, iv x2, iv lo, iv hi, .val (.int 3), rv cs, rv ra, rv rr] [(.ref cs), (.ref la), (.int ((own_R l0 l1 l2 l3 l4 l5 hi) - (own_R l0 l1 l2 l3 l4 l5 lo)))]) (fun _ k => XS.aload X38.here hx rfl (hb hby at_379) rfl rfl k) ?_
  refine own_S (mkF m 382 #[iv ln, iv ca, iv cb, iv sh, rv la, rv ra, iv x1, iv x2, iv lo, iv hi, .val (.int 3), rv cs, rv ra, rv rr] [(.int 1), (.ref cs), (.ref la), (.int ((own_R l0 l1 l2 l3 l4 l5 hi) - (own_R l0 l1 l2 l3 l4 l5 lo)))]) (fun _ k => XS.iconst X38.here hx rfl (hb hby at_381) k) ?_
  refine own_S (mkF m 383 #[iv ln, iv ca, iv cb, iv sh, rv la, rv ra, iv x1, iv x2, iv lo, iv hi, .val (.int 3), rv cs, rv ra, rv rr] [(.int lo), (.ref la), (.int ((own_R l0 l1 l2 l3 l4 l5 hi) - (own_R l0 l1 l2 l3 l4 l5 lo)))]) (fun _ k => own_ldI X38 hx hZ e38 F34 (by decide) rfl (g := (mkF m 382 #[iv ln, iv ca, iv cb, iv sh, rv la, rv ra, iv x1, iv x2, iv lo, iv hi, .val (.int 3), rv cs, rv ra, rv rr] [(.int 1), (.ref cs), (.ref la), (.int ((own_R l0 l1 l2 l3 l4 l5 hi) - (own_R l0 l1 l2 l3 l4 l5 lo)))])) rfl rfl (hb hby at_382) _ k) ?_
  refine own_S (mkF m 385 #[iv ln, iv ca, iv cb, iv sh, rv la, rv ra, iv x1, iv x2, iv lo, iv hi, .val (.int 3), rv cs, rv ra, rv rr] [(.ref cs), (.int lo), (.ref la), (.int ((own_R l0 l1 l2 l3 l4 l5 hi) - (own_R l0 l1 l2 l3 l4 l5 lo)))]) (fun _ k => XS.aload X38.here hx rfl (hb hby at_383) rfl rfl k) ?_
  refine own_S (mkF m 386 #[iv ln, iv ca, iv cb, iv sh, rv la, rv ra, iv x1, iv x2, iv lo, iv hi, .val (.int 3), rv cs, rv ra, rv rr] [(.int 2), (.ref cs), (.int lo), (.ref la), (.int ((own_R l0 l1 l2 l3 l4 l5 hi) - (own_R l0 l1 l2 l3 l4 l5 lo)))]) (fun _ k => XS.iconst X38.here hx rfl (hb hby at_385) k) ?_
  refine own_S (mkF m 387 #[iv ln, iv ca, iv cb, iv sh, rv la, rv ra, iv x1, iv x2, iv lo, iv hi, .val (.int 3), rv cs, rv ra, rv rr] [(.int hi), (.int lo), (.ref la), (.int ((own_R l0 l1 l2 l3 l4 l5 hi) - (own_R l0 l1 l2 l3 l4 l5 lo)))]) (fun _ k => own_ldI X38 hx hZ e38 F34 (by decide) rfl (g := (mkF m 386 #[iv ln, iv ca, iv cb, iv sh, rv la, rv ra, iv x1, iv x2, iv lo, iv hi, .val (.int 3), rv cs, rv ra, rv rr] [(.int 2), (.ref cs), (.int lo), (.ref la), (.int ((own_R l0 l1 l2 l3 l4 l5 hi) - (own_R l0 l1 l2 l3 l4 l5 lo)))])) rfl rfl (hb hby at_386) _ k) ?_
  obtain ⟨_, _, ⟨T41, L41, k41, n41⟩, -, X41, ⟨Lc41, hQ41, l41, y41, z41⟩, st41⟩ := Jvm.LawKit.callS X38 hx (y := own_y2) hown (mvT hZ (own_g hw (i := 13) rfl)) (mvT hZ (own_g hw (i := 14) rfl)) (mvT hZ (own_g hw (i := 15) rfl)) (mvT hZ (own_g hw (i := 16) rfl)) (by decide) (backOf (W := 1) (own_rmmv l Z a0 hw [] (la) (kl) (l0) (l1) (l2) (l3) (l4) (l5) (lo) (hi) T26.heap n0 Z26 F32) hZ (own_g hw (i := 16) rfl) (own_g hw (i := 15) rfl) (by decide) (by decide)) (g := (mkF m 387 #[iv ln, iv ca, iv cb, iv sh, rv la, rv ra, iv x1, iv x2, iv lo, iv hi, .val (.int 3), rv cs, rv ra, rv rr] [(.int hi), (.int lo), (.ref la), (.int ((own_R l0 l1 l2 l3 l4 l5 hi) - (own_R l0 l1 l2 l3 l4 l5 lo)))])) rfl (by rw [hml]; rfl) (argsL := [(.ref la), (.int lo), (.int hi)]) (rest := [(.int ((own_R l0 l1 l2 l3 l4 l5 hi) - (own_R l0 l1 l2 l3 l4 l5 lo)))]) (lenOf own_pd___III_I rfl) rfl (by show 2 * 0 + _ ≤ _; exact Nat.le_of_eq rfl) (hb hby at_387) (fun _ _ => ⟨rfl, e38, (by decide : 4 + 0 ≤ _), (by decide : 21 + 0 ≤ _)⟩)
  dsimp only [Pt.U, Pt.locs, Pt.cells, Pt.slots] at X41 l41 y41 z41 st41 hQ41
  subst l41 y41 z41
  obtain ⟨rfl, N41q, e41⟩ := hQ41
  have N41 := Fr.app N38 N41q
  refine own_S (mkF m 390 #[iv ln, iv ca, iv cb, iv sh, rv la, rv ra, iv x1, iv x2, iv lo, iv hi, .val (.int 3), rv cs, rv ra, rv rr] [(.int (own_moves l0 l1 l2 l3 l4 l5 lo hi)), (.int ((own_R l0 l1 l2 l3 l4 l5 hi) - (own_R l0 l1 l2 l3 l4 l5 lo)))]) (fun _ k => st41 _ k) ?_
  have hc42 : ((own_R l0 l1 l2 l3 l4 l5 hi) - (own_R l0 l1 l2 l3 l4 l5 lo)) = (own_moves l0 l1 l2 l3 l4 l5 lo hi) := (own_law l0 l1 l2 l3 l4 l5 _ _ b_lo b_hi lohi)
  refine own_S (mkF m 395 #[iv ln, iv ca, iv cb, iv sh, rv la, rv ra, iv x1, iv x2, iv lo, iv hi, .val (.int 3), rv cs, rv ra, rv rr] []) (fun _ k => XS.icmpYes X41.here hx rfl (pc0 := 390) (pc' := 395) rfl (hb hby at_390) rfl (teq hc42).1 (by decide) (by decide) k) ?_
  refine own_S (mkF m 397 #[iv ln, iv ca, iv cb, iv sh, rv la, rv ra, iv x1, iv x2, iv lo, iv hi, .val (.int 3), rv cs, rv ra, rv rr] [(.int 3)]) (fun _ k => XS.iload X41.here hx rfl (hb hby at_395) rfl k) ?_
  refine own_S (mkF m 398 #[iv ln, iv ca, iv cb, iv sh, rv la, rv ra, iv x1, iv x2, iv lo, iv hi, .val (.int 3), rv cs, rv ra, rv rr] [(.int 3), (.int 3)]) (fun _ k => XS.iconst X41.here hx rfl (hb hby at_397) k) ?_
  have hc43 : ¬ ((3 : Int32) < (3 : Int32)) := by decide
  refine own_S (mkF m 401 #[iv ln, iv ca, iv cb, iv sh, rv la, rv ra, iv x1, iv x2, iv lo, iv hi, .val (.int 3), rv cs, rv ra, rv rr] []) (fun _ k => XS.icmpNo X41.here hx rfl (hb hby at_398) rfl (flt hc43).1 k) ?_
  refine own_S (mkF m 403 #[iv ln, iv ca, iv cb, iv sh, rv la, rv ra, iv x1, iv x2, iv lo, iv hi, .val (.int 3), rv cs, rv ra, rv rr] [(.ref rr)]) (fun _ k => XS.aload X41.here hx rfl (hb hby at_401) rfl rfl k) ?_
  refine own_S (mkF m 404 #[iv ln, iv ca, iv cb, iv sh, rv la, rv ra, iv x1, iv x2, iv lo, iv hi, .val (.int 3), rv cs, rv ra, rv rr] [(.int 3), (.ref rr)]) (fun _ k => XS.iconst X41.here hx rfl (hb hby at_403) k) ?_
  refine own_S (mkF m 405 #[iv ln, iv ca, iv cb, iv sh, rv la, rv ra, iv x1, iv x2, iv lo, iv hi, .val (.int 3), rv cs, rv ra, rv rr] [(.int (((((l0 + l1) + l2) + l3) + l4) + l5))]) (fun _ k => own_ldI X41 hx hZ e41 F27 (by decide) rfl (g := (mkF m 404 #[iv ln, iv ca, iv cb, iv sh, rv la, rv ra, iv x1, iv x2, iv lo, iv hi, .val (.int 3), rv cs, rv ra, rv rr] [(.int 3), (.ref rr)])) rfl rfl (hb hby at_404) _ k) ?_
  refine own_S (mkF m 407 #[iv ln, iv ca, iv cb, iv sh, rv la, rv ra, iv x1, iv x2, iv lo, iv hi, .val (.int 3), rv cs, rv ra, rv rr] [(.ref rr), (.int (((((l0 + l1) + l2) + l3) + l4) + l5))]) (fun _ k => XS.aload X41.here hx rfl (hb hby at_405) rfl rfl k) ?_
  refine own_S (mkF m 408 #[iv ln, iv ca, iv cb, iv sh, rv la, rv ra, iv x1, iv x2, iv lo, iv hi, .val (.int 3), rv cs, rv ra, rv rr] [(.int 2), (.ref rr), (.int (((((l0 + l1) + l2) + l3) + l4) + l5))]) (fun _ k => XS.iconst X41.here hx rfl (hb hby at_407) k) ?_
  refine own_S (mkF m 409 #[iv ln, iv ca, iv cb, iv sh, rv la, rv ra, iv x1, iv x2, iv lo, iv hi, .val (.int 3), rv cs, rv ra, rv rr] [(.int (own_R l0 l1 l2 l3 l4 l5 hi)), (.int (((((l0 + l1) + l2) + l3) + l4) + l5))]) (fun _ k => own_ldI X41 hx hZ e41 F27 (by decide) rfl (g := (mkF m 408 #[iv ln, iv ca, iv cb, iv sh, rv la, rv ra, iv x1, iv x2, iv lo, iv hi, .val (.int 3), rv cs, rv ra, rv rr] [(.int 2), (.ref rr), (.int (((((l0 + l1) + l2) + l3) + l4) + l5))])) rfl rfl (hb hby at_408) _ k) ?_
  refine own_S (mkF m 410 #[iv ln, iv ca, iv cb, iv sh, rv la, rv ra, iv x1, iv x2, iv lo, iv hi, .val (.int 3), rv cs, rv ra, rv rr] [(.int ((((((l0 + l1) + l2) + l3) + l4) + l5) - (own_R l0 l1 l2 l3 l4 l5 hi)))]) (fun _ k => XS.isub X41.here hx rfl (hb hby at_409) rfl k) ?_
  refine own_S (mkF m 412 #[iv ln, iv ca, iv cb, iv sh, rv la, rv ra, iv x1, iv x2, iv lo, iv hi, .val (.int 3), rv cs, rv ra, rv rr] [(.ref la), (.int ((((((l0 + l1) + l2) + l3) + l4) + l5) - (own_R l0 l1 l2 l3 l4 l5 hi)))]) (fun _ k => XS.aload X41.here hx rfl (hb hby at_410) rfl rfl k) ?_
  refine own_S (mkF m 414 #[iv ln, iv ca, iv cb, iv sh, rv la, rv ra, iv x1, iv x2, iv lo, iv hi, .val (.int 3), rv cs, rv ra, rv rr] [(.ref cs), (.ref la), (.int ((((((l0 + l1) + l2) + l3) + l4) + l5) - (own_R l0 l1 l2 l3 l4 l5 hi)))]) (fun _ k => XS.aload X41.here hx rfl (hb hby at_412) rfl rfl k) ?_
  refine own_S (mkF m 415 #[iv ln, iv ca, iv cb, iv sh, rv la, rv ra, iv x1, iv x2, iv lo, iv hi, .val (.int 3), rv cs, rv ra, rv rr] [(.int 2), (.ref cs), (.ref la), (.int ((((((l0 + l1) + l2) + l3) + l4) + l5) - (own_R l0 l1 l2 l3 l4 l5 hi)))]) (fun _ k => XS.iconst X41.here hx rfl (hb hby at_414) k) ?_
  refine own_S (mkF m 416 #[iv ln, iv ca, iv cb, iv sh, rv la, rv ra, iv x1, iv x2, iv lo, iv hi, .val (.int 3), rv cs, rv ra, rv rr] [(.int hi), (.ref la), (.int ((((((l0 + l1) + l2) + l3) + l4) + l5) - (own_R l0 l1 l2 l3 l4 l5 hi)))]) (fun _ k => own_ldI X41 hx hZ e41 F34 (by decide) rfl (g := (mkF m 415 #[iv ln, iv ca, iv cb, iv sh, rv la, rv ra, iv x1, iv x2, iv lo, iv hi, .val (.int 3), rv cs, rv ra, rv rr] [(.int 2), (.ref cs), (.ref la), (.int ((((((l0 + l1) + l2) + l3) + l4) + l5) - (own_R l0 l1 l2 l3 l4 l5 hi)))])) rfl rfl (hb hby at_415) _ k) ?_
  refine own_S (mkF m 418 #[iv ln, iv ca, iv cb, iv sh, rv la, rv ra, iv x1, iv x2, iv lo, iv hi, .val (.int 3), rv cs, rv ra, rv rr] [(.ref cs), (.int hi), (.ref la), (.int ((((((l0 + l1) + l2) + l3) + l4) + l5) - (own_R l0 l1 l2 l3 l4 l5 hi)))]) (fun _ k => XS.aload X41.here hx rfl (hb hby at_416) rfl rfl k) ?_
  refine own_S (mkF m 419 #[iv ln, iv ca, iv cb, iv sh, rv la, rv ra, iv x1, iv x2, iv lo, iv hi, .val (.int 3), rv cs, rv ra, rv rr] [(.int 3), (.ref cs), (.int hi), (.ref la), (.int ((((((l0 + l1) + l2) + l3) + l4) + l5) - (own_R l0 l1 l2 l3 l4 l5 hi)))]) (fun _ k => XS.iconst X41.here hx rfl (hb hby at_418) k) ?_
  refine own_S (mkF m 420 #[iv ln, iv ca, iv cb, iv sh, rv la, rv ra, iv x1, iv x2, iv lo, iv hi, .val (.int 3), rv cs, rv ra, rv rr] [(.int 6), (.int hi), (.ref la), (.int ((((((l0 + l1) + l2) + l3) + l4) + l5) - (own_R l0 l1 l2 l3 l4 l5 hi)))]) (fun _ k => own_ldI X41 hx hZ e41 F34 (by decide) rfl (g := (mkF m 419 #[iv ln, iv ca, iv cb, iv sh, rv la, rv ra, iv x1, iv x2, iv lo, iv hi, .val (.int 3), rv cs, rv ra, rv rr] [(.int 3), (.ref cs), (.int hi), (.ref la), (.int ((((((l0 + l1) + l2) + l3) + l4) + l5) - (own_R l0 l1 l2 l3 l4 l5 hi)))])) rfl rfl (hb hby at_419) _ k) ?_
  obtain ⟨_, _, ⟨T44, L44, k44, n44⟩, -, X44, ⟨Lc44, hQ44, l44, y44, z44⟩, st44⟩ := Jvm.LawKit.callS X41 hx (y := own_y2) hown (mvT hZ (own_g hw (i := 13) rfl)) (mvT hZ (own_g hw (i := 14) rfl)) (mvT hZ (own_g hw (i := 15) rfl)) (mvT hZ (own_g hw (i := 16) rfl)) (by decide) (backOf (W := 1) (own_rmmv l Z a0 hw [] (la) (kl) (l0) (l1) (l2) (l3) (l4) (l5) (hi) (6) T26.heap n0 Z26 F32) hZ (own_g hw (i := 16) rfl) (own_g hw (i := 15) rfl) (by decide) (by decide)) (g := (mkF m 420 #[iv ln, iv ca, iv cb, iv sh, rv la, rv ra, iv x1, iv x2, iv lo, iv hi, .val (.int 3), rv cs, rv ra, rv rr] [(.int 6), (.int hi), (.ref la), (.int ((((((l0 + l1) + l2) + l3) + l4) + l5) - (own_R l0 l1 l2 l3 l4 l5 hi)))])) rfl (by rw [hml]; rfl) (argsL := [(.ref la), (.int hi), (.int 6)]) (rest := [(.int ((((((l0 + l1) + l2) + l3) + l4) + l5) - (own_R l0 l1 l2 l3 l4 l5 hi)))]) (lenOf own_pd___III_I rfl) rfl (by show 2 * 0 + _ ≤ _; exact Nat.le_of_eq rfl) (hb hby at_420) (fun _ _ => ⟨rfl, e41, (by decide : 4 + 0 ≤ _), (by decide : 21 + 0 ≤ _)⟩)
  dsimp only [Pt.U, Pt.locs, Pt.cells, Pt.slots] at X44 l44 y44 z44 st44 hQ44
  subst l44 y44 z44
  obtain ⟨rfl, N44q, e44⟩ := hQ44
  have N44 := Fr.app N41 N44q
  refine own_S (mkF m 423 #[iv ln, iv ca, iv cb, iv sh, rv la, rv ra, iv x1, iv x2, iv lo, iv hi, .val (.int 3), rv cs, rv ra, rv rr] [(.int (own_moves l0 l1 l2 l3 l4 l5 hi 6)), (.int ((((((l0 + l1) + l2) + l3) + l4) + l5) - (own_R l0 l1 l2 l3 l4 l5 hi)))]) (fun _ k => st44 _ k) ?_
  have hc45 : ((((((l0 + l1) + l2) + l3) + l4) + l5) - (own_R l0 l1 l2 l3 l4 l5 hi)) = (own_moves l0 l1 l2 l3 l4 l5 hi 6) := (own_law l0 l1 l2 l3 l4 l5 _ _ b_hi own_b6 (own_l6 b_hi))
  refine own_S (mkF m 428 #[iv ln, iv ca, iv cb, iv sh, rv la, rv ra, iv x1, iv x2, iv lo, iv hi, .val (.int 3), rv cs, rv ra, rv rr] []) (fun _ k => XS.icmpYes X44.here hx rfl (pc0 := 423) (pc' := 428) rfl (hb hby at_423) rfl (teq hc45).1 (by decide) (by decide) k) ?_
  refine own_S (mkF m 429 #[iv ln, iv ca, iv cb, iv sh, rv la, rv ra, iv x1, iv x2, iv lo, iv hi, .val (.int 3), rv cs, rv ra, rv rr] [(.int 1)]) (fun _ k => XS.iconst X44.here hx rfl (hb hby at_428) k) ?_
  exact own_retN X44 hx hlk (t := .boolean) hret (by simp) (hb hby at_429) (by rw [e44]; exact ⟨rfl, N44, trivial⟩) (by decide) (by decide)
theorem own_pd__II_I : parseMethodDescriptor "(II)I" = some ⟨[.int, .int], (some .int)⟩ := by decide +kernel
theorem own_pf_law : plainFor x = true := by first | exact plainFor_of_name (show plainName "com/example/accrue/accrue/exact/GraphStateRowsPinLaw" = true by first | (simp [plainName, overriddenIn]; done) | decide +kernel) | decide +kernel
theorem own_ef_law (m : MethodId) (y0 : Int32) (y1 : Int32) (y2 : Int32) (y3 : Int32) : entryFrame m #[(.int y0), (.int y1), (.int y2), (.int y3)] maxLocals = mkF m 0 #[iv y0, iv y1, iv y2, iv y3, .unset, .unset, .unset, .unset, .unset, .unset, .unset, .unset, .unset, .unset] [] := by first | (simp [entryFrame, mkF, argsToLocals, Value.category, maxLocals]; done) | rfl
set_option maxRecDepth 65536 in
set_option maxHeartbeats 40000000 in
theorem own_rmlaw (l : Launch) (Z : State) (a0 : Array Value) (hw : ∀ d ∈ tables_1, d.before a0 Z = true) (ws : List Jvm.Cond) (ln : Int32) (ca : Int32) (cb : Int32) (sh : Int32) (h0 : Heap) (n0 : Nat) (Z0 : n0 ≤ h0.size)  :
    MetFree l x (head1 (Jvm.Cond.code x code maxLocals ret :: ws) room_1) (fun az Uz => az = #[(.int ln), (.int ca), (.int cb), (.int sh)] ∧ Z.Warmed39 Uz.vm ∧ Uz.heap = h0) (fun _ _ _ _ _ => True) (fun _ U o U' => ∃ v L, o = .returned v ∧ own_Qlaw Z ln ca cb sh h0 n0 v U'.heap L ∧ FrameEnd U o U' L room_1.cells room_1.slots) := by
  refine MetFree.of_bodySF own_pf_law hisR ?_
  intro p e s m args below meth c s₁ Bd hml0 hP hK
  obtain ⟨rfl, hZ, hh⟩ := hP
  have hx := Bd.exec
  have hby := Bd.bytes
  have hml : c.maxLocals = 14 := hml0
  have hown : s.vm.findClass "com/example/accrue/accrue/exact/GraphStateRowsPinLaw" = some m.cls := findClass_of_methodNamed Bd.named
  have hnm := (name_of_methodNamed Bd.named Bd.method).1
  have hlk : meth.locks = false := BodyLoose.notSynchronized Bd
  have hret := Bd.returns
  have X0 : Stand p l e room_1 s m #[(.int ln), (.int ca), (.int cb), (.int sh)] below meth c s₁ [] 0 0 := Stand.of_body Bd
  have e0 : s₁.heap = h0 := by rw [← hh, Bd.state]; rfl
  have N0 := Fr.nil n0
  show own_E p e below (own_K s (own_Qlaw Z ln ca cb sh h0 n0) room_1.cells room_1.slots) s₁ (entryFrame m #[(.int ln), (.int ca), (.int cb), (.int sh)] maxLocals)
  refine own_S (mkF m 0 #[iv ln, iv ca, iv cb, iv sh, .unset, .unset, .unset, .unset, .unset, .unset, .unset, .unset, .unset, .unset] []) (fun _ k => castTop (own_ef_law m (ln) (ca) (cb) (sh)) k) ?_
  refine own_S (mkF m 2 #[iv ln, iv ca, iv cb, iv sh, .unset, .unset, .unset, .unset, .unset, .unset, .unset, .unset, .unset, .unset] [(.int 6)]) (fun _ k => XS.bipush X0.here hx rfl (hb hby at_0) k) ?_
  obtain ⟨T1, h1, cA1, X1, e1, E1, A1, st1⟩ := newP X0 hx hZ (own_g hw (i := 0) rfl) e0 (g := (mkF m 2 #[iv ln, iv ca, iv cb, iv sh, .unset, .unset, .unset, .unset, .unset, .unset, .unset, .unset, .unset, .unset] [(.int 6)])) rfl (hb hby at_2) rfl (by decide) (cap := 6) (by decide) (by decide) (by decide) (by decide)
  obtain ⟨la, g1⟩ : ∃ z, z = h0.size := ⟨_, rfl⟩
  rw [← g1] at A1 st1
  have ge_la : n0 ≤ la := Nat.le_trans Z0 (Nat.le_of_eq g1.symm)
  have Z1 : n0 ≤ h1.size := Nat.le_trans Z0 E1.1
  have F2 : own_Ar Z h1 la cA1 .int [(.int (0 : Int32)), (.int (0 : Int32)), (.int (0 : Int32)), (.int (0 : Int32)), (.int (0 : Int32)), (.int (0 : Int32))] := own_Ar.new A1 rfl
  refine own_S (mkF m 4 #[iv ln, iv ca, iv cb, iv sh, .unset, .unset, .unset, .unset, .unset, .unset, .unset, .unset, .unset, .unset] [(.ref la)]) st1 ?_
  refine own_S (mkF m 6 #[iv ln, iv ca, iv cb, iv sh, rv la, .unset, .unset, .unset, .unset, .unset, .unset, .unset, .unset, .unset] []) (fun _ k => XS.astore X1.here hx rfl (hb hby at_4) rfl rfl (l' := #[iv ln, iv ca, iv cb, iv sh, rv la, .unset, .unset, .unset, .unset, .unset, .unset, .unset, .unset, .unset]) rfl k) ?_
  refine own_S (mkF m 8 #[iv ln, iv ca, iv cb, iv sh, rv la, .unset, .unset, .unset, .unset, .unset, .unset, .unset, .unset, .unset] [(.ref la)]) (fun _ k => XS.aload X1.here hx rfl (hb hby at_6) rfl rfl k) ?_
  refine own_S (mkF m 9 #[iv ln, iv ca, iv cb, iv sh, rv la, .unset, .unset, .unset, .unset, .unset, .unset, .unset, .unset, .unset] [(.int 0), (.ref la)]) (fun _ k => XS.iconst X1.here hx rfl (hb hby at_8) k) ?_
  refine own_S (mkF m 10 #[iv ln, iv ca, iv cb, iv sh, rv la, .unset, .unset, .unset, .unset, .unset, .unset, .unset, .unset, .unset] [(.int ln), (.int 0), (.ref la)]) (fun _ k => XS.iloadN X1.here hx rfl (hb hby at_9) rfl k) ?_
  refine own_S (mkF m 12 #[iv ln, iv ca, iv cb, iv sh, rv la, .unset, .unset, .unset, .unset, .unset, .unset, .unset, .unset, .unset] [(.int 7), (.int ln), (.int 0), (.ref la)]) (fun _ k => XS.bipush X1.here hx rfl (hb hby at_10) k) ?_
  refine own_S (mkF m 13 #[iv ln, iv ca, iv cb, iv sh, rv la, .unset, .unset, .unset, .unset, .unset, .unset, .unset, .unset, .unset] [(.int (ln &&& (7 : Int32))), (.int 0), (.ref la)]) (fun _ k => XS.iand X1.here hx rfl (hb hby at_12) rfl k) ?_
  obtain ⟨l0, h_l0⟩ : ∃ z : Int32, z = (ln &&& (7 : Int32)) := ⟨_, rfl⟩
  refine own_S (T' := T1) (mkF m 13 #[iv ln, iv ca, iv cb, iv sh, rv la, .unset, .unset, .unset, .unset, .unset, .unset, .unset, .unset, .unset] [(.int l0), (.int 0), (.ref la)]) (fun _ k => by subst h_l0; exact k) ?_
  obtain ⟨T3, h3, X3, e3, W3, AR3, st3⟩ := own_stI (j := (0 : Int32)) X1 hx hZ e1 F2 (by decide) (show (0 : Nat) < 6 from by decide) (g := (mkF m 13 #[iv ln, iv ca, iv cb, iv sh, rv la, .unset, .unset, .unset, .unset, .unset, .unset, .unset, .unset, .unset] [(.int l0), (.int 0), (.ref la)])) rfl rfl (hb hby at_13)
  refine own_S (mkF m 14 #[iv ln, iv ca, iv cb, iv sh, rv la, .unset, .unset, .unset, .unset, .unset, .unset, .unset, .unset, .unset] []) st3 ?_
  have F4 : own_Ar Z h3 la cA1 .int [(.int l0), (.int (0 : Int32)), (.int (0 : Int32)), (.int (0 : Int32)), (.int (0 : Int32)), (.int (0 : Int32))] := AR3
  have N3 := Fr.snoc X3 N0 ge_la
  have Z3 : n0 ≤ h3.size := by rw [Wr.size W3]; exact Z1
  refine own_S (mkF m 16 #[iv ln, iv ca, iv cb, iv sh, rv la, .unset, .unset, .unset, .unset, .unset, .unset, .unset, .unset, .unset] [(.ref la)]) (fun _ k => XS.aload X3.here hx rfl (hb hby at_14) rfl rfl k) ?_
  refine own_S (mkF m 17 #[iv ln, iv ca, iv cb, iv sh, rv la, .unset, .unset, .unset, .unset, .unset, .unset, .unset, .unset, .unset] [(.int 1), (.ref la)]) (fun _ k => XS.iconst X3.here hx rfl (hb hby at_16) k) ?_
  refine own_S (mkF m 18 #[iv ln, iv ca, iv cb, iv sh, rv la, .unset, .unset, .unset, .unset, .unset, .unset, .unset, .unset, .unset] [(.int ln), (.int 1), (.ref la)]) (fun _ k => XS.iloadN X3.here hx rfl (hb hby at_17) rfl k) ?_
  refine own_S (mkF m 19 #[iv ln, iv ca, iv cb, iv sh, rv la, .unset, .unset, .unset, .unset, .unset, .unset, .unset, .unset, .unset] [(.int 3), (.int ln), (.int 1), (.ref la)]) (fun _ k => XS.iconst X3.here hx rfl (hb hby at_18) k) ?_
  refine own_S (mkF m 20 #[iv ln, iv ca, iv cb, iv sh, rv la, .unset, .unset, .unset, .unset, .unset, .unset, .unset, .unset, .unset] [(.int ((ln).toUInt32 >>> ((3 : Int32) &&& 31).toUInt32).toInt32), (.int 1), (.ref la)]) (fun _ k => XS.iushr X3.here hx rfl (hb hby at_19) rfl k) ?_
  refine own_S (mkF m 22 #[iv ln, iv ca, iv cb, iv sh, rv la, .unset, .unset, .unset, .unset, .unset, .unset, .unset, .unset, .unset] [(.int 7), (.int ((ln).toUInt32 >>> ((3 : Int32) &&& 31).toUInt32).toInt32), (.int 1), (.ref la)]) (fun _ k => XS.bipush X3.here hx rfl (hb hby at_20) k) ?_
  refine own_S (mkF m 23 #[iv ln, iv ca, iv cb, iv sh, rv la, .unset, .unset, .unset, .unset, .unset, .unset, .unset, .unset, .unset] [(.int (((ln).toUInt32 >>> ((3 : Int32) &&& 31).toUInt32).toInt32 &&& (7 : Int32))), (.int 1), (.ref la)]) (fun _ k => XS.iand X3.here hx rfl (hb hby at_22) rfl k) ?_
  obtain ⟨l1, h_l1⟩ : ∃ z : Int32, z = (((ln).toUInt32 >>> ((3 : Int32) &&& 31).toUInt32).toInt32 &&& (7 : Int32)) := ⟨_, rfl⟩
  refine own_S (T' := T3) (mkF m 23 #[iv ln, iv ca, iv cb, iv sh, rv la, .unset, .unset, .unset, .unset, .unset, .unset, .unset, .unset, .unset] [(.int l1), (.int 1), (.ref la)]) (fun _ k => by subst h_l1; exact k) ?_
  obtain ⟨T5, h5, X5, e5, W5, AR5, st5⟩ := own_stI (j := (1 : Int32)) X3 hx hZ e3 F4 (by decide) (show (1 : Nat) < 6 from by decide) (g := (mkF m 23 #[iv ln, iv ca, iv cb, iv sh, rv la, .unset, .unset, .unset, .unset, .unset, .unset, .unset, .unset, .unset] [(.int l1), (.int 1), (.ref la)])) rfl rfl (hb hby at_23)
  refine own_S (mkF m 24 #[iv ln, iv ca, iv cb, iv sh, rv la, .unset, .unset, .unset, .unset, .unset, .unset, .unset, .unset, .unset] []) st5 ?_
  have F6 : own_Ar Z h5 la cA1 .int [(.int l0), (.int l1), (.int (0 : Int32)), (.int (0 : Int32)), (.int (0 : Int32)), (.int (0 : Int32))] := AR5
  have N5 := Fr.snoc X5 N3 ge_la
  have Z5 : n0 ≤ h5.size := by rw [Wr.size W5]; exact Z3
  refine own_S (mkF m 26 #[iv ln, iv ca, iv cb, iv sh, rv la, .unset, .unset, .unset, .unset, .unset, .unset, .unset, .unset, .unset] [(.ref la)]) (fun _ k => XS.aload X5.here hx rfl (hb hby at_24) rfl rfl k) ?_
  refine own_S (mkF m 27 #[iv ln, iv ca, iv cb, iv sh, rv la, .unset, .unset, .unset, .unset, .unset, .unset, .unset, .unset, .unset] [(.int 2), (.ref la)]) (fun _ k => XS.iconst X5.here hx rfl (hb hby at_26) k) ?_
  refine own_S (mkF m 28 #[iv ln, iv ca, iv cb, iv sh, rv la, .unset, .unset, .unset, .unset, .unset, .unset, .unset, .unset, .unset] [(.int ln), (.int 2), (.ref la)]) (fun _ k => XS.iloadN X5.here hx rfl (hb hby at_27) rfl k) ?_
  refine own_S (mkF m 30 #[iv ln, iv ca, iv cb, iv sh, rv la, .unset, .unset, .unset, .unset, .unset, .unset, .unset, .unset, .unset] [(.int 6), (.int ln), (.int 2), (.ref la)]) (fun _ k => XS.bipush X5.here hx rfl (hb hby at_28) k) ?_
  refine own_S (mkF m 31 #[iv ln, iv ca, iv cb, iv sh, rv la, .unset, .unset, .unset, .unset, .unset, .unset, .unset, .unset, .unset] [(.int ((ln).toUInt32 >>> ((6 : Int32) &&& 31).toUInt32).toInt32), (.int 2), (.ref la)]) (fun _ k => XS.iushr X5.here hx rfl (hb hby at_30) rfl k) ?_
  refine own_S (mkF m 33 #[iv ln, iv ca, iv cb, iv sh, rv la, .unset, .unset, .unset, .unset, .unset, .unset, .unset, .unset, .unset] [(.int 7), (.int ((ln).toUInt32 >>> ((6 : Int32) &&& 31).toUInt32).toInt32), (.int 2), (.ref la)]) (fun _ k => XS.bipush X5.here hx rfl (hb hby at_31) k) ?_
  refine own_S (mkF m 34 #[iv ln, iv ca, iv cb, iv sh, rv la, .unset, .unset, .unset, .unset, .unset, .unset, .unset, .unset, .unset] [(.int (((ln).toUInt32 >>> ((6 : Int32) &&& 31).toUInt32).toInt32 &&& (7 : Int32))), (.int 2), (.ref la)]) (fun _ k => XS.iand X5.here hx rfl (hb hby at_33) rfl k) ?_
  obtain ⟨l2, h_l2⟩ : ∃ z : Int32, z = (((ln).toUInt32 >>> ((6 : Int32) &&& 31).toUInt32).toInt32 &&& (7 : Int32)) := ⟨_, rfl⟩
  refine own_S (T' := T5) (mkF m 34 #[iv ln, iv ca, iv cb, iv sh, rv la, .unset, .unset, .unset, .unset, .unset, .unset, .unset, .unset, .unset] [(.int l2), (.int 2), (.ref la)]) (fun _ k => by subst h_l2; exact k) ?_
  obtain ⟨T7, h7, X7, e7, W7, AR7, st7⟩ := own_stI (j := (2 : Int32)) X5 hx hZ e5 F6 (by decide) (show (2 : Nat) < 6 from by decide) (g := (mkF m 34 #[iv ln, iv ca, iv cb, iv sh, rv la, .unset, .unset, .unset, .unset, .unset, .unset, .unset, .unset, .unset] [(.int l2), (.int 2), (.ref la)])) rfl rfl (hb hby at_34)
  refine own_S (mkF m 35 #[iv ln, iv ca, iv cb, iv sh, rv la, .unset, .unset, .unset, .unset, .unset, .unset, .unset, .unset, .unset] []) st7 ?_
  have F8 : own_Ar Z h7 la cA1 .int [(.int l0), (.int l1), (.int l2), (.int (0 : Int32)), (.int (0 : Int32)), (.int (0 : Int32))] := AR7
  have N7 := Fr.snoc X7 N5 ge_la
  have Z7 : n0 ≤ h7.size := by rw [Wr.size W7]; exact Z5
  refine own_S (mkF m 37 #[iv ln, iv ca, iv cb, iv sh, rv la, .unset, .unset, .unset, .unset, .unset, .unset, .unset, .unset, .unset] [(.ref la)]) (fun _ k => XS.aload X7.here hx rfl (hb hby at_35) rfl rfl k) ?_
  refine own_S (mkF m 38 #[iv ln, iv ca, iv cb, iv sh, rv la, .unset, .unset, .unset, .unset, .unset, .unset, .unset, .unset, .unset] [(.int 3), (.ref la)]) (fun _ k => XS.iconst X7.here hx rfl (hb hby at_37) k) ?_
  refine own_S (mkF m 39 #[iv ln, iv ca, iv cb, iv sh, rv la, .unset, .unset, .unset, .unset, .unset, .unset, .unset, .unset, .unset] [(.int ln), (.int 3), (.ref la)]) (fun _ k => XS.iloadN X7.here hx rfl (hb hby at_38) rfl k) ?_
  refine own_S (mkF m 41 #[iv ln, iv ca, iv cb, iv sh, rv la, .unset, .unset, .unset, .unset, .unset, .unset, .unset, .unset, .unset] [(.int 9), (.int ln), (.int 3), (.ref la)]) (fun _ k => XS.bipush X7.here hx rfl (hb hby at_39) k) ?_
  refine own_S (mkF m 42 #[iv ln, iv ca, iv cb, iv sh, rv la, .unset, .unset, .unset, .unset, .unset, .unset, .unset, .unset, .unset] [(.int ((ln).toUInt32 >>> ((9 : Int32) &&& 31).toUInt32).toInt32), (.int 3), (.ref la)]) (fun _ k => XS.iushr X7.here hx rfl (hb hby at_41) rfl k) ?_
  refine own_S (mkF m 44 #[iv ln, iv ca, iv cb, iv sh, rv la, .unset, .unset, .unset, .unset, .unset, .unset, .unset, .unset, .unset] [(.int 7), (.int ((ln).toUInt32 >>> ((9 : Int32) &&& 31).toUInt32).toInt32), (.int 3), (.ref la)]) (fun _ k => XS.bipush X7.here hx rfl (hb hby at_42) k) ?_
  refine own_S (mkF m 45 #[iv ln, iv ca, iv cb, iv sh, rv la, .unset, .unset, .unset, .unset, .unset, .unset, .unset, .unset, .unset] [(.int (((ln).toUInt32 >>> ((9 : Int32) &&& 31).toUInt32).toInt32 &&& (7 : Int32))), (.int 3), (.ref la)]) (fun _ k => XS.iand X7.here hx rfl (hb hby at_44) rfl k) ?_
  obtain ⟨l3, h_l3⟩ : ∃ z : Int32, z = (((ln).toUInt32 >>> ((9 : Int32) &&& 31).toUInt32).toInt32 &&& (7 : Int32)) := ⟨_, rfl⟩
  refine own_S (T' := T7) (mkF m 45 #[iv ln, iv ca, iv cb, iv sh, rv la, .unset, .unset, .unset, .unset, .unset, .unset, .unset, .unset, .unset] [(.int l3), (.int 3), (.ref la)]) (fun _ k => by subst h_l3; exact k) ?_
  obtain ⟨T9, h9, X9, e9, W9, AR9, st9⟩ := own_stI (j := (3 : Int32)) X7 hx hZ e7 F8 (by decide) (show (3 : Nat) < 6 from by decide) (g := (mkF m 45 #[iv ln, iv ca, iv cb, iv sh, rv la, .unset, .unset, .unset, .unset, .unset, .unset, .unset, .unset, .unset] [(.int l3), (.int 3), (.ref la)])) rfl rfl (hb hby at_45)
  refine own_S (mkF m 46 #[iv ln, iv ca, iv cb, iv sh, rv la, .unset, .unset, .unset, .unset, .unset, .unset, .unset, .unset, .unset] []) st9 ?_
  have F10 : own_Ar Z h9 la cA1 .int [(.int l0), (.int l1), (.int l2), (.int l3), (.int (0 : Int32)), (.int (0 : Int32))] := AR9
  have N9 := Fr.snoc X9 N7 ge_la
  have Z9 : n0 ≤ h9.size := by rw [Wr.size W9]; exact Z7
  refine own_S (mkF m 48 #[iv ln, iv ca, iv cb, iv sh, rv la, .unset, .unset, .unset, .unset, .unset, .unset, .unset, .unset, .unset] [(.ref la)]) (fun _ k => XS.aload X9.here hx rfl (hb hby at_46) rfl rfl k) ?_
  refine own_S (mkF m 49 #[iv ln, iv ca, iv cb, iv sh, rv la, .unset, .unset, .unset, .unset, .unset, .unset, .unset, .unset, .unset] [(.int 4), (.ref la)]) (fun _ k => XS.iconst X9.here hx rfl (hb hby at_48) k) ?_
  refine own_S (mkF m 50 #[iv ln, iv ca, iv cb, iv sh, rv la, .unset, .unset, .unset, .unset, .unset, .unset, .unset, .unset, .unset] [(.int ln), (.int 4), (.ref la)]) (fun _ k => XS.iloadN X9.here hx rfl (hb hby at_49) rfl k) ?_
  refine own_S (mkF m 52 #[iv ln, iv ca, iv cb, iv sh, rv la, .unset, .unset, .unset, .unset, .unset, .unset, .unset, .unset, .unset] [(.int 12), (.int ln), (.int 4), (.ref la)]) (fun _ k => XS.bipush X9.here hx rfl (hb hby at_50) k) ?_
  refine own_S (mkF m 53 #[iv ln, iv ca, iv cb, iv sh, rv la, .unset, .unset, .unset, .unset, .unset, .unset, .unset, .unset, .unset] [(.int ((ln).toUInt32 >>> ((12 : Int32) &&& 31).toUInt32).toInt32), (.int 4), (.ref la)]) (fun _ k => XS.iushr X9.here hx rfl (hb hby at_52) rfl k) ?_
  refine own_S (mkF m 55 #[iv ln, iv ca, iv cb, iv sh, rv la, .unset, .unset, .unset, .unset, .unset, .unset, .unset, .unset, .unset] [(.int 7), (.int ((ln).toUInt32 >>> ((12 : Int32) &&& 31).toUInt32).toInt32), (.int 4), (.ref la)]) (fun _ k => XS.bipush X9.here hx rfl (hb hby at_53) k) ?_
  refine own_S (mkF m 56 #[iv ln, iv ca, iv cb, iv sh, rv la, .unset, .unset, .unset, .unset, .unset, .unset, .unset, .unset, .unset] [(.int (((ln).toUInt32 >>> ((12 : Int32) &&& 31).toUInt32).toInt32 &&& (7 : Int32))), (.int 4), (.ref la)]) (fun _ k => XS.iand X9.here hx rfl (hb hby at_55) rfl k) ?_
  obtain ⟨l4, h_l4⟩ : ∃ z : Int32, z = (((ln).toUInt32 >>> ((12 : Int32) &&& 31).toUInt32).toInt32 &&& (7 : Int32)) := ⟨_, rfl⟩
  refine own_S (T' := T9) (mkF m 56 #[iv ln, iv ca, iv cb, iv sh, rv la, .unset, .unset, .unset, .unset, .unset, .unset, .unset, .unset, .unset] [(.int l4), (.int 4), (.ref la)]) (fun _ k => by subst h_l4; exact k) ?_
  obtain ⟨T11, h11, X11, e11, W11, AR11, st11⟩ := own_stI (j := (4 : Int32)) X9 hx hZ e9 F10 (by decide) (show (4 : Nat) < 6 from by decide) (g := (mkF m 56 #[iv ln, iv ca, iv cb, iv sh, rv la, .unset, .unset, .unset, .unset, .unset, .unset, .unset, .unset, .unset] [(.int l4), (.int 4), (.ref la)])) rfl rfl (hb hby at_56)
  refine own_S (mkF m 57 #[iv ln, iv ca, iv cb, iv sh, rv la, .unset, .unset, .unset, .unset, .unset, .unset, .unset, .unset, .unset] []) st11 ?_
  have F12 : own_Ar Z h11 la cA1 .int [(.int l0), (.int l1), (.int l2), (.int l3), (.int l4), (.int (0 : Int32))] := AR11
  have N11 := Fr.snoc X11 N9 ge_la
  have Z11 : n0 ≤ h11.size := by rw [Wr.size W11]; exact Z9
  refine own_S (mkF m 59 #[iv ln, iv ca, iv cb, iv sh, rv la, .unset, .unset, .unset, .unset, .unset, .unset, .unset, .unset, .unset] [(.ref la)]) (fun _ k => XS.aload X11.here hx rfl (hb hby at_57) rfl rfl k) ?_
  refine own_S (mkF m 60 #[iv ln, iv ca, iv cb, iv sh, rv la, .unset, .unset, .unset, .unset, .unset, .unset, .unset, .unset, .unset] [(.int 5), (.ref la)]) (fun _ k => XS.iconst X11.here hx rfl (hb hby at_59) k) ?_
  refine own_S (mkF m 61 #[iv ln, iv ca, iv cb, iv sh, rv la, .unset, .unset, .unset, .unset, .unset, .unset, .unset, .unset, .unset] [(.int ln), (.int 5), (.ref la)]) (fun _ k => XS.iloadN X11.here hx rfl (hb hby at_60) rfl k) ?_
  refine own_S (mkF m 63 #[iv ln, iv ca, iv cb, iv sh, rv la, .unset, .unset, .unset, .unset, .unset, .unset, .unset, .unset, .unset] [(.int 15), (.int ln), (.int 5), (.ref la)]) (fun _ k => XS.bipush X11.here hx rfl (hb hby at_61) k) ?_
  refine own_S (mkF m 64 #[iv ln, iv ca, iv cb, iv sh, rv la, .unset, .unset, .unset, .unset, .unset, .unset, .unset, .unset, .unset] [(.int ((ln).toUInt32 >>> ((15 : Int32) &&& 31).toUInt32).toInt32), (.int 5), (.ref la)]) (fun _ k => XS.iushr X11.here hx rfl (hb hby at_63) rfl k) ?_
  refine own_S (mkF m 66 #[iv ln, iv ca, iv cb, iv sh, rv la, .unset, .unset, .unset, .unset, .unset, .unset, .unset, .unset, .unset] [(.int 7), (.int ((ln).toUInt32 >>> ((15 : Int32) &&& 31).toUInt32).toInt32), (.int 5), (.ref la)]) (fun _ k => XS.bipush X11.here hx rfl (hb hby at_64) k) ?_
  refine own_S (mkF m 67 #[iv ln, iv ca, iv cb, iv sh, rv la, .unset, .unset, .unset, .unset, .unset, .unset, .unset, .unset, .unset] [(.int (((ln).toUInt32 >>> ((15 : Int32) &&& 31).toUInt32).toInt32 &&& (7 : Int32))), (.int 5), (.ref la)]) (fun _ k => XS.iand X11.here hx rfl (hb hby at_66) rfl k) ?_
  obtain ⟨l5, h_l5⟩ : ∃ z : Int32, z = (((ln).toUInt32 >>> ((15 : Int32) &&& 31).toUInt32).toInt32 &&& (7 : Int32)) := ⟨_, rfl⟩
  refine own_S (T' := T11) (mkF m 67 #[iv ln, iv ca, iv cb, iv sh, rv la, .unset, .unset, .unset, .unset, .unset, .unset, .unset, .unset, .unset] [(.int l5), (.int 5), (.ref la)]) (fun _ k => by subst h_l5; exact k) ?_
  obtain ⟨T13, h13, X13, e13, W13, AR13, st13⟩ := own_stI (j := (5 : Int32)) X11 hx hZ e11 F12 (by decide) (show (5 : Nat) < 6 from by decide) (g := (mkF m 67 #[iv ln, iv ca, iv cb, iv sh, rv la, .unset, .unset, .unset, .unset, .unset, .unset, .unset, .unset, .unset] [(.int l5), (.int 5), (.ref la)])) rfl rfl (hb hby at_67)
  refine own_S (mkF m 68 #[iv ln, iv ca, iv cb, iv sh, rv la, .unset, .unset, .unset, .unset, .unset, .unset, .unset, .unset, .unset] []) st13 ?_
  have F14 : own_Ar Z h13 la cA1 .int [(.int l0), (.int l1), (.int l2), (.int l3), (.int l4), (.int l5)] := AR13
  have N13 := Fr.snoc X13 N11 ge_la
  have Z13 : n0 ≤ h13.size := by rw [Wr.size W13]; exact Z11
  refine own_S (mkF m 70 #[iv ln, iv ca, iv cb, iv sh, rv la, .unset, .unset, .unset, .unset, .unset, .unset, .unset, .unset, .unset] [(.int 7)]) (fun _ k => XS.bipush X13.here hx rfl (hb hby at_68) k) ?_
  obtain ⟨T15, h15, cA15, X15, e15, E15, A15, st15⟩ := newP X13 hx hZ (own_g hw (i := 0) rfl) e13 (g := (mkF m 70 #[iv ln, iv ca, iv cb, iv sh, rv la, .unset, .unset, .unset, .unset, .unset, .unset, .unset, .unset, .unset] [(.int 7)])) rfl (hb hby at_70) rfl (by decide) (cap := 7) (by decide) (by decide) (by decide) (by decide)
  obtain ⟨ra, g15⟩ : ∃ z, z = h13.size := ⟨_, rfl⟩
  rw [← g15] at A15 st15
  have n16 : la ≠ ra := Nat.ne_of_lt (Nat.lt_of_lt_of_eq F14.lt g15.symm)
  have ge_ra : n0 ≤ ra := Nat.le_trans Z13 (Nat.le_of_eq g15.symm)
  have F17 := F14.ext E15
  have Z15 : n0 ≤ h15.size := Nat.le_trans Z13 E15.1
  have F18 : own_Ar Z h15 ra cA15 .int [(.int (0 : Int32)), (.int (0 : Int32)), (.int (0 : Int32)), (.int (0 : Int32)), (.int (0 : Int32)), (.int (0 : Int32)), (.int (0 : Int32))] := own_Ar.new A15 rfl
  refine own_S (mkF m 72 #[iv ln, iv ca, iv cb, iv sh, rv la, .unset, .unset, .unset, .unset, .unset, .unset, .unset, .unset, .unset] [(.ref ra)]) st15 ?_
  refine own_S (mkF m 74 #[iv ln, iv ca, iv cb, iv sh, rv la, rv ra, .unset, .unset, .unset, .unset, .unset, .unset, .unset, .unset] []) (fun _ k => XS.astore X15.here hx rfl (hb hby at_72) rfl rfl (l' := #[iv ln, iv ca, iv cb, iv sh, rv la, rv ra, .unset, .unset, .unset, .unset, .unset, .unset, .unset, .unset]) rfl k) ?_
  refine own_S (mkF m 76 #[iv ln, iv ca, iv cb, iv sh, rv la, rv ra, .unset, .unset, .unset, .unset, .unset, .unset, .unset, .unset] [(.ref ra)]) (fun _ k => XS.aload X15.here hx rfl (hb hby at_74) rfl rfl k) ?_
  refine own_S (mkF m 77 #[iv ln, iv ca, iv cb, iv sh, rv la, rv ra, .unset, .unset, .unset, .unset, .unset, .unset, .unset, .unset] [(.int 0), (.ref ra)]) (fun _ k => XS.iconst X15.here hx rfl (hb hby at_76) k) ?_
  refine own_S (mkF m 78 #[iv ln, iv ca, iv cb, iv sh, rv la, rv ra, .unset, .unset, .unset, .unset, .unset, .unset, .unset, .unset] [(.int 0), (.int 0), (.ref ra)]) (fun _ k => XS.iconst X15.here hx rfl (hb hby at_77) k) ?_
  obtain ⟨T19, h19, X19, e19, W19, AR19, st19⟩ := own_stI (j := (0 : Int32)) X15 hx hZ e15 F18 (by decide) (show (0 : Nat) < 7 from by decide) (g := (mkF m 78 #[iv ln, iv ca, iv cb, iv sh, rv la, rv ra, .unset, .unset, .unset, .unset, .unset, .unset, .unset, .unset] [(.int 0), (.int 0), (.ref ra)])) rfl rfl (hb hby at_78)
  refine own_S (mkF m 79 #[iv ln, iv ca, iv cb, iv sh, rv la, rv ra, .unset, .unset, .unset, .unset, .unset, .unset, .unset, .unset] []) st19 ?_
  have F20 := F17.other W19 n16
  have F21 : own_Ar Z h19 ra cA15 .int [(.int 0), (.int (0 : Int32)), (.int (0 : Int32)), (.int (0 : Int32)), (.int (0 : Int32)), (.int (0 : Int32)), (.int (0 : Int32))] := AR19
  have N19 := Fr.snoc X19 N13 ge_ra
  have Z19 : n0 ≤ h19.size := by rw [Wr.size W19]; exact Z15
  refine own_S (mkF m 81 #[iv ln, iv ca, iv cb, iv sh, rv la, rv ra, .unset, .unset, .unset, .unset, .unset, .unset, .unset, .unset] [(.ref ra)]) (fun _ k => XS.aload X19.here hx rfl (hb hby at_79) rfl rfl k) ?_
  refine own_S (mkF m 82 #[iv ln, iv ca, iv cb, iv sh, rv la, rv ra, .unset, .unset, .unset, .unset, .unset, .unset, .unset, .unset] [(.int 1), (.ref ra)]) (fun _ k => XS.iconst X19.here hx rfl (hb hby at_81) k) ?_
  refine own_S (mkF m 84 #[iv ln, iv ca, iv cb, iv sh, rv la, rv ra, .unset, .unset, .unset, .unset, .unset, .unset, .unset, .unset] [(.ref la), (.int 1), (.ref ra)]) (fun _ k => XS.aload X19.here hx rfl (hb hby at_82) rfl rfl k) ?_
  refine own_S (mkF m 85 #[iv ln, iv ca, iv cb, iv sh, rv la, rv ra, .unset, .unset, .unset, .unset, .unset, .unset, .unset, .unset] [(.int 0), (.ref la), (.int 1), (.ref ra)]) (fun _ k => XS.iconst X19.here hx rfl (hb hby at_84) k) ?_
  refine own_S (mkF m 86 #[iv ln, iv ca, iv cb, iv sh, rv la, rv ra, .unset, .unset, .unset, .unset, .unset, .unset, .unset, .unset] [(.int l0), (.int 1), (.ref ra)]) (fun _ k => own_ldI X19 hx hZ e19 F20 (by decide) rfl (g := (mkF m 85 #[iv ln, iv ca, iv cb, iv sh, rv la, rv ra, .unset, .unset, .unset, .unset, .unset, .unset, .unset, .unset] [(.int 0), (.ref la), (.int 1), (.ref ra)])) rfl rfl (hb hby at_85) _ k) ?_
  obtain ⟨T22, h22, X22, e22, W22, AR22, st22⟩ := own_stI (j := (1 : Int32)) X19 hx hZ e19 F21 (by decide) (show (1 : Nat) < 7 from by decide) (g := (mkF m 86 #[iv ln, iv ca, iv cb, iv sh, rv la, rv ra, .unset, .unset, .unset, .unset, .unset, .unset, .unset, .unset] [(.int l0), (.int 1), (.ref ra)])) rfl rfl (hb hby at_86)
  refine own_S (mkF m 87 #[iv ln, iv ca, iv cb, iv sh, rv la, rv ra, .unset, .unset, .unset, .unset, .unset, .unset, .unset, .unset] []) st22 ?_
  have F23 := F20.other W22 n16
  have F24 : own_Ar Z h22 ra cA15 .int [(.int 0), (.int l0), (.int (0 : Int32)), (.int (0 : Int32)), (.int (0 : Int32)), (.int (0 : Int32)), (.int (0 : Int32))] := AR22
  have N22 := Fr.snoc X22 N19 ge_ra
  have Z22 : n0 ≤ h22.size := by rw [Wr.size W22]; exact Z19
  refine own_S (mkF m 89 #[iv ln, iv ca, iv cb, iv sh, rv la, rv ra, .unset, .unset, .unset, .unset, .unset, .unset, .unset, .unset] [(.ref ra)]) (fun _ k => XS.aload X22.here hx rfl (hb hby at_87) rfl rfl k) ?_
  refine own_S (mkF m 90 #[iv ln, iv ca, iv cb, iv sh, rv la, rv ra, .unset, .unset, .unset, .unset, .unset, .unset, .unset, .unset] [(.int 2), (.ref ra)]) (fun _ k => XS.iconst X22.here hx rfl (hb hby at_89) k) ?_
  refine own_S (mkF m 92 #[iv ln, iv ca, iv cb, iv sh, rv la, rv ra, .unset, .unset, .unset, .unset, .unset, .unset, .unset, .unset] [(.ref ra), (.int 2), (.ref ra)]) (fun _ k => XS.aload X22.here hx rfl (hb hby at_90) rfl rfl k) ?_
  refine own_S (mkF m 93 #[iv ln, iv ca, iv cb, iv sh, rv la, rv ra, .unset, .unset, .unset, .unset, .unset, .unset, .unset, .unset] [(.int 1), (.ref ra), (.int 2), (.ref ra)]) (fun _ k => XS.iconst X22.here hx rfl (hb hby at_92) k) ?_
  refine own_S (mkF m 94 #[iv ln, iv ca, iv cb, iv sh, rv la, rv ra, .unset, .unset, .unset, .unset, .unset, .unset, .unset, .unset] [(.int l0), (.int 2), (.ref ra)]) (fun _ k => own_ldI X22 hx hZ e22 F24 (by decide) rfl (g := (mkF m 93 #[iv ln, iv ca, iv cb, iv sh, rv la, rv ra, .unset, .unset, .unset, .unset, .unset, .unset, .unset, .unset] [(.int 1), (.ref ra), (.int 2), (.ref ra)])) rfl rfl (hb hby at_93) _ k) ?_
  refine own_S (mkF m 96 #[iv ln, iv ca, iv cb, iv sh, rv la, rv ra, .unset, .unset, .unset, .unset, .unset, .unset, .unset, .unset] [(.ref la), (.int l0), (.int 2), (.ref ra)]) (fun _ k => XS.aload X22.here hx rfl (hb hby at_94) rfl rfl k) ?_
  refine own_S (mkF m 97 #[iv ln, iv ca, iv cb, iv sh, rv la, rv ra, .unset, .unset, .unset, .unset, .unset, .unset, .unset, .unset] [(.int 1), (.ref la), (.int l0), (.int 2), (.ref ra)]) (fun _ k => XS.iconst X22.here hx rfl (hb hby at_96) k) ?_
  refine own_S (mkF m 98 #[iv ln, iv ca, iv cb, iv sh, rv la, rv ra, .unset, .unset, .unset, .unset, .unset, .unset, .unset, .unset] [(.int l1), (.int l0), (.int 2), (.ref ra)]) (fun _ k => own_ldI X22 hx hZ e22 F23 (by decide) rfl (g := (mkF m 97 #[iv ln, iv ca, iv cb, iv sh, rv la, rv ra, .unset, .unset, .unset, .unset, .unset, .unset, .unset, .unset] [(.int 1), (.ref la), (.int l0), (.int 2), (.ref ra)])) rfl rfl (hb hby at_97) _ k) ?_
  refine own_S (mkF m 99 #[iv ln, iv ca, iv cb, iv sh, rv la, rv ra, .unset, .unset, .unset, .unset, .unset, .unset, .unset, .unset] [(.int (l0 + l1)), (.int 2), (.ref ra)]) (fun _ k => XS.iadd X22.here hx rfl (hb hby at_98) rfl k) ?_
  obtain ⟨r2, h_r2⟩ : ∃ z : Int32, z = (l0 + l1) := ⟨_, rfl⟩
  refine own_S (T' := T22) (mkF m 99 #[iv ln, iv ca, iv cb, iv sh, rv la, rv ra, .unset, .unset, .unset, .unset, .unset, .unset, .unset, .unset] [(.int r2), (.int 2), (.ref ra)]) (fun _ k => by subst h_r2; exact k) ?_
  obtain ⟨T25, h25, X25, e25, W25, AR25, st25⟩ := own_stI (j := (2 : Int32)) X22 hx hZ e22 F24 (by decide) (show (2 : Nat) < 7 from by decide) (g := (mkF m 99 #[iv ln, iv ca, iv cb, iv sh, rv la, rv ra, .unset, .unset, .unset, .unset, .unset, .unset, .unset, .unset] [(.int r2), (.int 2), (.ref ra)])) rfl rfl (hb hby at_99)
  refine own_S (mkF m 100 #[iv ln, iv ca, iv cb, iv sh, rv la, rv ra, .unset, .unset, .unset, .unset, .unset, .unset, .unset, .unset] []) st25 ?_
  have F26 := F23.other W25 n16
  have F27 : own_Ar Z h25 ra cA15 .int [(.int 0), (.int l0), (.int r2), (.int (0 : Int32)), (.int (0 : Int32)), (.int (0 : Int32)), (.int (0 : Int32))] := AR25
  have N25 := Fr.snoc X25 N22 ge_ra
  have Z25 : n0 ≤ h25.size := by rw [Wr.size W25]; exact Z22
  refine own_S (mkF m 102 #[iv ln, iv ca, iv cb, iv sh, rv la, rv ra, .unset, .unset, .unset, .unset, .unset, .unset, .unset, .unset] [(.ref ra)]) (fun _ k => XS.aload X25.here hx rfl (hb hby at_100) rfl rfl k) ?_
  refine own_S (mkF m 103 #[iv ln, iv ca, iv cb, iv sh, rv la, rv ra, .unset, .unset, .unset, .unset, .unset, .unset, .unset, .unset] [(.int 3), (.ref ra)]) (fun _ k => XS.iconst X25.here hx rfl (hb hby at_102) k) ?_
  refine own_S (mkF m 105 #[iv ln, iv ca, iv cb, iv sh, rv la, rv ra, .unset, .unset, .unset, .unset, .unset, .unset, .unset, .unset] [(.ref ra), (.int 3), (.ref ra)]) (fun _ k => XS.aload X25.here hx rfl (hb hby at_103) rfl rfl k) ?_
  refine own_S (mkF m 106 #[iv ln, iv ca, iv cb, iv sh, rv la, rv ra, .unset, .unset, .unset, .unset, .unset, .unset, .unset, .unset] [(.int 2), (.ref ra), (.int 3), (.ref ra)]) (fun _ k => XS.iconst X25.here hx rfl (hb hby at_105) k) ?_
  refine own_S (mkF m 107 #[iv ln, iv ca, iv cb, iv sh, rv la, rv ra, .unset, .unset, .unset, .unset, .unset, .unset, .unset, .unset] [(.int r2), (.int 3), (.ref ra)]) (fun _ k => own_ldI X25 hx hZ e25 F27 (by decide) rfl (g := (mkF m 106 #[iv ln, iv ca, iv cb, iv sh, rv la, rv ra, .unset, .unset, .unset, .unset, .unset, .unset, .unset, .unset] [(.int 2), (.ref ra), (.int 3), (.ref ra)])) rfl rfl (hb hby at_106) _ k) ?_
  refine own_S (mkF m 109 #[iv ln, iv ca, iv cb, iv sh, rv la, rv ra, .unset, .unset, .unset, .unset, .unset, .unset, .unset, .unset] [(.ref la), (.int r2), (.int 3), (.ref ra)]) (fun _ k => XS.aload X25.here hx rfl (hb hby at_107) rfl rfl k) ?_
  refine own_S (mkF m 110 #[iv ln, iv ca, iv cb, iv sh, rv la, rv ra, .unset, .unset, .unset, .unset, .unset, .unset, .unset, .unset] [(.int 2), (.ref la), (.int r2), (.int 3), (.ref ra)]) (fun _ k => XS.iconst X25.here hx rfl (hb hby at_109) k) ?_
  refine own_S (mkF m 111 #[iv ln, iv ca, iv cb, iv sh, rv la, rv ra, .unset, .unset, .unset, .unset, .unset, .unset, .unset, .unset] [(.int l2), (.int r2), (.int 3), (.ref ra)]) (fun _ k => own_ldI X25 hx hZ e25 F26 (by decide) rfl (g := (mkF m 110 #[iv ln, iv ca, iv cb, iv sh, rv la, rv ra, .unset, .unset, .unset, .unset, .unset, .unset, .unset, .unset] [(.int 2), (.ref la), (.int r2), (.int 3), (.ref ra)])) rfl rfl (hb hby at_110) _ k) ?_
  refine own_S (mkF m 112 #[iv ln, iv ca, iv cb, iv sh, rv la, rv ra, .unset, .unset, .unset, .unset, .unset, .unset, .unset, .unset] [(.int (r2 + l2)), (.int 3), (.ref ra)]) (fun _ k => XS.iadd X25.here hx rfl (hb hby at_111) rfl k) ?_
  obtain ⟨r3, h_r3⟩ : ∃ z : Int32, z = (r2 + l2) := ⟨_, rfl⟩
  refine own_S (T' := T25) (mkF m 112 #[iv ln, iv ca, iv cb, iv sh, rv la, rv ra, .unset, .unset, .unset, .unset, .unset, .unset, .unset, .unset] [(.int r3), (.int 3), (.ref ra)]) (fun _ k => by subst h_r3; exact k) ?_
  obtain ⟨T28, h28, X28, e28, W28, AR28, st28⟩ := own_stI (j := (3 : Int32)) X25 hx hZ e25 F27 (by decide) (show (3 : Nat) < 7 from by decide) (g := (mkF m 112 #[iv ln, iv ca, iv cb, iv sh, rv la, rv ra, .unset, .unset, .unset, .unset, .unset, .unset, .unset, .unset] [(.int r3), (.int 3), (.ref ra)])) rfl rfl (hb hby at_112)
  refine own_S (mkF m 113 #[iv ln, iv ca, iv cb, iv sh, rv la, rv ra, .unset, .unset, .unset, .unset, .unset, .unset, .unset, .unset] []) st28 ?_
  have F29 := F26.other W28 n16
  have F30 : own_Ar Z h28 ra cA15 .int [(.int 0), (.int l0), (.int r2), (.int r3), (.int (0 : Int32)), (.int (0 : Int32)), (.int (0 : Int32))] := AR28
  have N28 := Fr.snoc X28 N25 ge_ra
  have Z28 : n0 ≤ h28.size := by rw [Wr.size W28]; exact Z25
  refine own_S (mkF m 115 #[iv ln, iv ca, iv cb, iv sh, rv la, rv ra, .unset, .unset, .unset, .unset, .unset, .unset, .unset, .unset] [(.ref ra)]) (fun _ k => XS.aload X28.here hx rfl (hb hby at_113) rfl rfl k) ?_
  refine own_S (mkF m 116 #[iv ln, iv ca, iv cb, iv sh, rv la, rv ra, .unset, .unset, .unset, .unset, .unset, .unset, .unset, .unset] [(.int 4), (.ref ra)]) (fun _ k => XS.iconst X28.here hx rfl (hb hby at_115) k) ?_
  refine own_S (mkF m 118 #[iv ln, iv ca, iv cb, iv sh, rv la, rv ra, .unset, .unset, .unset, .unset, .unset, .unset, .unset, .unset] [(.ref ra), (.int 4), (.ref ra)]) (fun _ k => XS.aload X28.here hx rfl (hb hby at_116) rfl rfl k) ?_
  refine own_S (mkF m 119 #[iv ln, iv ca, iv cb, iv sh, rv la, rv ra, .unset, .unset, .unset, .unset, .unset, .unset, .unset, .unset] [(.int 3), (.ref ra), (.int 4), (.ref ra)]) (fun _ k => XS.iconst X28.here hx rfl (hb hby at_118) k) ?_
  refine own_S (mkF m 120 #[iv ln, iv ca, iv cb, iv sh, rv la, rv ra, .unset, .unset, .unset, .unset, .unset, .unset, .unset, .unset] [(.int r3), (.int 4), (.ref ra)]) (fun _ k => own_ldI X28 hx hZ e28 F30 (by decide) rfl (g := (mkF m 119 #[iv ln, iv ca, iv cb, iv sh, rv la, rv ra, .unset, .unset, .unset, .unset, .unset, .unset, .unset, .unset] [(.int 3), (.ref ra), (.int 4), (.ref ra)])) rfl rfl (hb hby at_119) _ k) ?_
  refine own_S (mkF m 122 #[iv ln, iv ca, iv cb, iv sh, rv la, rv ra, .unset, .unset, .unset, .unset, .unset, .unset, .unset, .unset] [(.ref la), (.int r3), (.int 4), (.ref ra)]) (fun _ k => XS.aload X28.here hx rfl (hb hby at_120) rfl rfl k) ?_
  refine own_S (mkF m 123 #[iv ln, iv ca, iv cb, iv sh, rv la, rv ra, .unset, .unset, .unset, .unset, .unset, .unset, .unset, .unset] [(.int 3), (.ref la), (.int r3), (.int 4), (.ref ra)]) (fun _ k => XS.iconst X28.here hx rfl (hb hby at_122) k) ?_
  refine own_S (mkF m 124 #[iv ln, iv ca, iv cb, iv sh, rv la, rv ra, .unset, .unset, .unset, .unset, .unset, .unset, .unset, .unset] [(.int l3), (.int r3), (.int 4), (.ref ra)]) (fun _ k => own_ldI X28 hx hZ e28 F29 (by decide) rfl (g := (mkF m 123 #[iv ln, iv ca, iv cb, iv sh, rv la, rv ra, .unset, .unset, .unset, .unset, .unset, .unset, .unset, .unset] [(.int 3), (.ref la), (.int r3), (.int 4), (.ref ra)])) rfl rfl (hb hby at_123) _ k) ?_
  refine own_S (mkF m 125 #[iv ln, iv ca, iv cb, iv sh, rv la, rv ra, .unset, .unset, .unset, .unset, .unset, .unset, .unset, .unset] [(.int (r3 + l3)), (.int 4), (.ref ra)]) (fun _ k => XS.iadd X28.here hx rfl (hb hby at_124) rfl k) ?_
  obtain ⟨r4, h_r4⟩ : ∃ z : Int32, z = (r3 + l3) := ⟨_, rfl⟩
  refine own_S (T' := T28) (mkF m 125 #[iv ln, iv ca, iv cb, iv sh, rv la, rv ra, .unset, .unset, .unset, .unset, .unset, .unset, .unset, .unset] [(.int r4), (.int 4), (.ref ra)]) (fun _ k => by subst h_r4; exact k) ?_
  obtain ⟨T31, h31, X31, e31, W31, AR31, st31⟩ := own_stI (j := (4 : Int32)) X28 hx hZ e28 F30 (by decide) (show (4 : Nat) < 7 from by decide) (g := (mkF m 125 #[iv ln, iv ca, iv cb, iv sh, rv la, rv ra, .unset, .unset, .unset, .unset, .unset, .unset, .unset, .unset] [(.int r4), (.int 4), (.ref ra)])) rfl rfl (hb hby at_125)
  refine own_S (mkF m 126 #[iv ln, iv ca, iv cb, iv sh, rv la, rv ra, .unset, .unset, .unset, .unset, .unset, .unset, .unset, .unset] []) st31 ?_
  have F32 := F29.other W31 n16
  have F33 : own_Ar Z h31 ra cA15 .int [(.int 0), (.int l0), (.int r2), (.int r3), (.int r4), (.int (0 : Int32)), (.int (0 : Int32))] := AR31
  have N31 := Fr.snoc X31 N28 ge_ra
  have Z31 : n0 ≤ h31.size := by rw [Wr.size W31]; exact Z28
  refine own_S (mkF m 128 #[iv ln, iv ca, iv cb, iv sh, rv la, rv ra, .unset, .unset, .unset, .unset, .unset, .unset, .unset, .unset] [(.ref ra)]) (fun _ k => XS.aload X31.here hx rfl (hb hby at_126) rfl rfl k) ?_
  refine own_S (mkF m 129 #[iv ln, iv ca, iv cb, iv sh, rv la, rv ra, .unset, .unset, .unset, .unset, .unset, .unset, .unset, .unset] [(.int 5), (.ref ra)]) (fun _ k => XS.iconst X31.here hx rfl (hb hby at_128) k) ?_
  refine own_S (mkF m 131 #[iv ln, iv ca, iv cb, iv sh, rv la, rv ra, .unset, .unset, .unset, .unset, .unset, .unset, .unset, .unset] [(.ref ra), (.int 5), (.ref ra)]) (fun _ k => XS.aload X31.here hx rfl (hb hby at_129) rfl rfl k) ?_
  refine own_S (mkF m 132 #[iv ln, iv ca, iv cb, iv sh, rv la, rv ra, .unset, .unset, .unset, .unset, .unset, .unset, .unset, .unset] [(.int 4), (.ref ra), (.int 5), (.ref ra)]) (fun _ k => XS.iconst X31.here hx rfl (hb hby at_131) k) ?_
  refine own_S (mkF m 133 #[iv ln, iv ca, iv cb, iv sh, rv la, rv ra, .unset, .unset, .unset, .unset, .unset, .unset, .unset, .unset] [(.int r4), (.int 5), (.ref ra)]) (fun _ k => own_ldI X31 hx hZ e31 F33 (by decide) rfl (g := (mkF m 132 #[iv ln, iv ca, iv cb, iv sh, rv la, rv ra, .unset, .unset, .unset, .unset, .unset, .unset, .unset, .unset] [(.int 4), (.ref ra), (.int 5), (.ref ra)])) rfl rfl (hb hby at_132) _ k) ?_
  refine own_S (mkF m 135 #[iv ln, iv ca, iv cb, iv sh, rv la, rv ra, .unset, .unset, .unset, .unset, .unset, .unset, .unset, .unset] [(.ref la), (.int r4), (.int 5), (.ref ra)]) (fun _ k => XS.aload X31.here hx rfl (hb hby at_133) rfl rfl k) ?_
  refine own_S (mkF m 136 #[iv ln, iv ca, iv cb, iv sh, rv la, rv ra, .unset, .unset, .unset, .unset, .unset, .unset, .unset, .unset] [(.int 4), (.ref la), (.int r4), (.int 5), (.ref ra)]) (fun _ k => XS.iconst X31.here hx rfl (hb hby at_135) k) ?_
  refine own_S (mkF m 137 #[iv ln, iv ca, iv cb, iv sh, rv la, rv ra, .unset, .unset, .unset, .unset, .unset, .unset, .unset, .unset] [(.int l4), (.int r4), (.int 5), (.ref ra)]) (fun _ k => own_ldI X31 hx hZ e31 F32 (by decide) rfl (g := (mkF m 136 #[iv ln, iv ca, iv cb, iv sh, rv la, rv ra, .unset, .unset, .unset, .unset, .unset, .unset, .unset, .unset] [(.int 4), (.ref la), (.int r4), (.int 5), (.ref ra)])) rfl rfl (hb hby at_136) _ k) ?_
  refine own_S (mkF m 138 #[iv ln, iv ca, iv cb, iv sh, rv la, rv ra, .unset, .unset, .unset, .unset, .unset, .unset, .unset, .unset] [(.int (r4 + l4)), (.int 5), (.ref ra)]) (fun _ k => XS.iadd X31.here hx rfl (hb hby at_137) rfl k) ?_
  obtain ⟨r5, h_r5⟩ : ∃ z : Int32, z = (r4 + l4) := ⟨_, rfl⟩
  refine own_S (T' := T31) (mkF m 138 #[iv ln, iv ca, iv cb, iv sh, rv la, rv ra, .unset, .unset, .unset, .unset, .unset, .unset, .unset, .unset] [(.int r5), (.int 5), (.ref ra)]) (fun _ k => by subst h_r5; exact k) ?_
  obtain ⟨T34, h34, X34, e34, W34, AR34, st34⟩ := own_stI (j := (5 : Int32)) X31 hx hZ e31 F33 (by decide) (show (5 : Nat) < 7 from by decide) (g := (mkF m 138 #[iv ln, iv ca, iv cb, iv sh, rv la, rv ra, .unset, .unset, .unset, .unset, .unset, .unset, .unset, .unset] [(.int r5), (.int 5), (.ref ra)])) rfl rfl (hb hby at_138)
  refine own_S (mkF m 139 #[iv ln, iv ca, iv cb, iv sh, rv la, rv ra, .unset, .unset, .unset, .unset, .unset, .unset, .unset, .unset] []) st34 ?_
  have F35 := F32.other W34 n16
  have F36 : own_Ar Z h34 ra cA15 .int [(.int 0), (.int l0), (.int r2), (.int r3), (.int r4), (.int r5), (.int (0 : Int32))] := AR34
  have N34 := Fr.snoc X34 N31 ge_ra
  have Z34 : n0 ≤ h34.size := by rw [Wr.size W34]; exact Z31
  refine own_S (mkF m 141 #[iv ln, iv ca, iv cb, iv sh, rv la, rv ra, .unset, .unset, .unset, .unset, .unset, .unset, .unset, .unset] [(.ref ra)]) (fun _ k => XS.aload X34.here hx rfl (hb hby at_139) rfl rfl k) ?_
  refine own_S (mkF m 143 #[iv ln, iv ca, iv cb, iv sh, rv la, rv ra, .unset, .unset, .unset, .unset, .unset, .unset, .unset, .unset] [(.int 6), (.ref ra)]) (fun _ k => XS.bipush X34.here hx rfl (hb hby at_141) k) ?_
  refine own_S (mkF m 145 #[iv ln, iv ca, iv cb, iv sh, rv la, rv ra, .unset, .unset, .unset, .unset, .unset, .unset, .unset, .unset] [(.ref ra), (.int 6), (.ref ra)]) (fun _ k => XS.aload X34.here hx rfl (hb hby at_143) rfl rfl k) ?_
  refine own_S (mkF m 146 #[iv ln, iv ca, iv cb, iv sh, rv la, rv ra, .unset, .unset, .unset, .unset, .unset, .unset, .unset, .unset] [(.int 5), (.ref ra), (.int 6), (.ref ra)]) (fun _ k => XS.iconst X34.here hx rfl (hb hby at_145) k) ?_
  refine own_S (mkF m 147 #[iv ln, iv ca, iv cb, iv sh, rv la, rv ra, .unset, .unset, .unset, .unset, .unset, .unset, .unset, .unset] [(.int r5), (.int 6), (.ref ra)]) (fun _ k => own_ldI X34 hx hZ e34 F36 (by decide) rfl (g := (mkF m 146 #[iv ln, iv ca, iv cb, iv sh, rv la, rv ra, .unset, .unset, .unset, .unset, .unset, .unset, .unset, .unset] [(.int 5), (.ref ra), (.int 6), (.ref ra)])) rfl rfl (hb hby at_146) _ k) ?_
  refine own_S (mkF m 149 #[iv ln, iv ca, iv cb, iv sh, rv la, rv ra, .unset, .unset, .unset, .unset, .unset, .unset, .unset, .unset] [(.ref la), (.int r5), (.int 6), (.ref ra)]) (fun _ k => XS.aload X34.here hx rfl (hb hby at_147) rfl rfl k) ?_
  refine own_S (mkF m 150 #[iv ln, iv ca, iv cb, iv sh, rv la, rv ra, .unset, .unset, .unset, .unset, .unset, .unset, .unset, .unset] [(.int 5), (.ref la), (.int r5), (.int 6), (.ref ra)]) (fun _ k => XS.iconst X34.here hx rfl (hb hby at_149) k) ?_
  refine own_S (mkF m 151 #[iv ln, iv ca, iv cb, iv sh, rv la, rv ra, .unset, .unset, .unset, .unset, .unset, .unset, .unset, .unset] [(.int l5), (.int r5), (.int 6), (.ref ra)]) (fun _ k => own_ldI X34 hx hZ e34 F35 (by decide) rfl (g := (mkF m 150 #[iv ln, iv ca, iv cb, iv sh, rv la, rv ra, .unset, .unset, .unset, .unset, .unset, .unset, .unset, .unset] [(.int 5), (.ref la), (.int r5), (.int 6), (.ref ra)])) rfl rfl (hb hby at_150) _ k) ?_
  refine own_S (mkF m 152 #[iv ln, iv ca, iv cb, iv sh, rv la, rv ra, .unset, .unset, .unset, .unset, .unset, .unset, .unset, .unset] [(.int (r5 + l5)), (.int 6), (.ref ra)]) (fun _ k => XS.iadd X34.here hx rfl (hb hby at_151) rfl k) ?_
  obtain ⟨r6, h_r6⟩ : ∃ z : Int32, z = (r5 + l5) := ⟨_, rfl⟩
  refine own_S (T' := T34) (mkF m 152 #[iv ln, iv ca, iv cb, iv sh, rv la, rv ra, .unset, .unset, .unset, .unset, .unset, .unset, .unset, .unset] [(.int r6), (.int 6), (.ref ra)]) (fun _ k => by subst h_r6; exact k) ?_
  obtain ⟨T37, h37, X37, e37, W37, AR37, st37⟩ := own_stI (j := (6 : Int32)) X34 hx hZ e34 F36 (by decide) (show (6 : Nat) < 7 from by decide) (g := (mkF m 152 #[iv ln, iv ca, iv cb, iv sh, rv la, rv ra, .unset, .unset, .unset, .unset, .unset, .unset, .unset, .unset] [(.int r6), (.int 6), (.ref ra)])) rfl rfl (hb hby at_152)
  refine own_S (mkF m 153 #[iv ln, iv ca, iv cb, iv sh, rv la, rv ra, .unset, .unset, .unset, .unset, .unset, .unset, .unset, .unset] []) st37 ?_
  have F38 := F35.other W37 n16
  have F39 : own_Ar Z h37 ra cA15 .int [(.int 0), (.int l0), (.int r2), (.int r3), (.int r4), (.int r5), (.int r6)] := AR37
  have N37 := Fr.snoc X37 N34 ge_ra
  have Z37 : n0 ≤ h37.size := by rw [Wr.size W37]; exact Z34
  refine own_S (mkF m 154 #[iv ln, iv ca, iv cb, iv sh, rv la, rv ra, .unset, .unset, .unset, .unset, .unset, .unset, .unset, .unset] [(.int ca)]) (fun _ k => XS.iloadN X37.here hx rfl (hb hby at_153) rfl k) ?_
  refine own_S (mkF m 156 #[iv ln, iv ca, iv cb, iv sh, rv la, rv ra, .unset, .unset, .unset, .unset, .unset, .unset, .unset, .unset] [(.int 2147483647), (.int ca)]) (fun _ k => X37.ldcInt hx hown (mvT hZ (own_g hw (i := 1) rfl)) (g := (mkF m 154 #[iv ln, iv ca, iv cb, iv sh, rv la, rv ra, .unset, .unset, .unset, .unset, .unset, .unset, .unset, .unset] [(.int ca)])) rfl (hb hby at_154) _ k) ?_
  refine own_S (mkF m 157 #[iv ln, iv ca, iv cb, iv sh, rv la, rv ra, .unset, .unset, .unset, .unset, .unset, .unset, .unset, .unset] [(.int (ca &&& (2147483647 : Int32)))]) (fun _ k => XS.iand X37.here hx rfl (hb hby at_156) rfl k) ?_
  refine own_S (mkF m 159 #[iv ln, iv ca, iv cb, iv sh, rv la, rv ra, .unset, .unset, .unset, .unset, .unset, .unset, .unset, .unset] [(.int 7), (.int (ca &&& (2147483647 : Int32)))]) (fun _ k => XS.bipush X37.here hx rfl (hb hby at_157) k) ?_
  refine own_S (mkF m 160 #[iv ln, iv ca, iv cb, iv sh, rv la, rv ra, .unset, .unset, .unset, .unset, .unset, .unset, .unset, .unset] [(.int ((ca &&& (2147483647 : Int32)) % (7 : Int32)))]) (fun _ k => iremM X37 hx rfl (hb hby at_159) rfl (by decide) k) ?_
  refine own_S (mkF m 162 #[iv ln, iv ca, iv cb, iv sh, rv la, rv ra, iv ((ca &&& (2147483647 : Int32)) % (7 : Int32)), .unset, .unset, .unset, .unset, .unset, .unset, .unset] []) (fun _ k => XS.istore X37.here hx rfl (hb hby at_160) rfl (l' := #[iv ln, iv ca, iv cb, iv sh, rv la, rv ra, iv ((ca &&& (2147483647 : Int32)) % (7 : Int32)), .unset, .unset, .unset, .unset, .unset, .unset, .unset]) rfl k) ?_
  obtain ⟨x1, h_x1⟩ : ∃ z : Int32, z = ((ca &&& (2147483647 : Int32)) % (7 : Int32)) := ⟨_, rfl⟩
  refine own_S (T' := T37) (mkF m 162 #[iv ln, iv ca, iv cb, iv sh, rv la, rv ra, iv x1, .unset, .unset, .unset, .unset, .unset, .unset, .unset] []) (fun _ k => by subst h_x1; exact k) ?_
  refine own_S (mkF m 163 #[iv ln, iv ca, iv cb, iv sh, rv la, rv ra, iv x1, .unset, .unset, .unset, .unset, .unset, .unset, .unset] [(.int cb)]) (fun _ k => XS.iloadN X37.here hx rfl (hb hby at_162) rfl k) ?_
  refine own_S (mkF m 165 #[iv ln, iv ca, iv cb, iv sh, rv la, rv ra, iv x1, .unset, .unset, .unset, .unset, .unset, .unset, .unset] [(.int 2147483647), (.int cb)]) (fun _ k => X37.ldcInt hx hown (mvT hZ (own_g hw (i := 1) rfl)) (g := (mkF m 163 #[iv ln, iv ca, iv cb, iv sh, rv la, rv ra, iv x1, .unset, .unset, .unset, .unset, .unset, .unset, .unset] [(.int cb)])) rfl (hb hby at_163) _ k) ?_
  refine own_S (mkF m 166 #[iv ln, iv ca, iv cb, iv sh, rv la, rv ra, iv x1, .unset, .unset, .unset, .unset, .unset, .unset, .unset] [(.int (cb &&& (2147483647 : Int32)))]) (fun _ k => XS.iand X37.here hx rfl (hb hby at_165) rfl k) ?_
  refine own_S (mkF m 168 #[iv ln, iv ca, iv cb, iv sh, rv la, rv ra, iv x1, .unset, .unset, .unset, .unset, .unset, .unset, .unset] [(.int 7), (.int (cb &&& (2147483647 : Int32)))]) (fun _ k => XS.bipush X37.here hx rfl (hb hby at_166) k) ?_
  refine own_S (mkF m 169 #[iv ln, iv ca, iv cb, iv sh, rv la, rv ra, iv x1, .unset, .unset, .unset, .unset, .unset, .unset, .unset] [(.int ((cb &&& (2147483647 : Int32)) % (7 : Int32)))]) (fun _ k => iremM X37 hx rfl (hb hby at_168) rfl (by decide) k) ?_
  refine own_S (mkF m 171 #[iv ln, iv ca, iv cb, iv sh, rv la, rv ra, iv x1, iv ((cb &&& (2147483647 : Int32)) % (7 : Int32)), .unset, .unset, .unset, .unset, .unset, .unset] []) (fun _ k => XS.istore X37.here hx rfl (hb hby at_169) rfl (l' := #[iv ln, iv ca, iv cb, iv sh, rv la, rv ra, iv x1, iv ((cb &&& (2147483647 : Int32)) % (7 : Int32)), .unset, .unset, .unset, .unset, .unset, .unset]) rfl k) ?_
  obtain ⟨x2, h_x2⟩ : ∃ z : Int32, z = ((cb &&& (2147483647 : Int32)) % (7 : Int32)) := ⟨_, rfl⟩
  refine own_S (T' := T37) (mkF m 171 #[iv ln, iv ca, iv cb, iv sh, rv la, rv ra, iv x1, iv x2, .unset, .unset, .unset, .unset, .unset, .unset] []) (fun _ k => by subst h_x2; exact k) ?_
  have b_x1 := own_m7 ca x1 h_x1
  have b_x2 := own_m7 cb x2 h_x2
  refine own_S (mkF m 173 #[iv ln, iv ca, iv cb, iv sh, rv la, rv ra, iv x1, iv x2, .unset, .unset, .unset, .unset, .unset, .unset] [(.int x1)]) (fun _ k => XS.iload X37.here hx rfl (hb hby at_171) rfl k) ?_
  refine own_S (mkF m 175 #[iv ln, iv ca, iv cb, iv sh, rv la, rv ra, iv x1, iv x2, .unset, .unset, .unset, .unset, .unset, .unset] [(.int x2), (.int x1)]) (fun _ k => XS.iload X37.here hx rfl (hb hby at_173) rfl k) ?_
  obtain ⟨_, _, ⟨T40, L40, k40, n40⟩, -, X40, ⟨Lc40, hQ40, l40, y40, z40⟩, st40⟩ := Jvm.LawKit.callS X37 hx (y := own_y0) hown (mvT hZ (own_g hw (i := 2) rfl)) (mvT hZ (own_g hw (i := 3) rfl)) (mvT hZ (own_g hw (i := 4) rfl)) (mvT hZ (own_g hw (i := 5) rfl)) (by decide) (backOf (W := 0) (own_rmmi l Z a0 hw [] (x1) (x2) h37 n0 Z37 ) hZ (own_g hw (i := 5) rfl) (own_g hw (i := 4) rfl) (by decide) (by decide)) (g := (mkF m 175 #[iv ln, iv ca, iv cb, iv sh, rv la, rv ra, iv x1, iv x2, .unset, .unset, .unset, .unset, .unset, .unset] [(.int x2), (.int x1)])) rfl (by rw [hml]; rfl) (argsL := [(.int x1), (.int x2)]) (rest := []) (lenOf own_pd__II_I rfl) rfl (by show 2 * 0 + _ ≤ _; exact Nat.le_of_eq rfl) (hb hby at_175) (fun _ _ => ⟨rfl, e37, (by decide : 2 + 0 ≤ _), (by decide : 13 + 0 ≤ _)⟩)
  dsimp only [Pt.U, Pt.locs, Pt.cells, Pt.slots] at X40 l40 y40 z40 st40 hQ40
  subst l40 y40 z40
  obtain ⟨rfl, N40q, e40⟩ := hQ40
  have N40 := Fr.app N37 N40q
  refine own_S (mkF m 178 #[iv ln, iv ca, iv cb, iv sh, rv la, rv ra, iv x1, iv x2, .unset, .unset, .unset, .unset, .unset, .unset] [(.int (if x2 < x1 then x2 else x1))]) (fun _ k => st40 _ k) ?_
  obtain ⟨lo, h_lo⟩ : ∃ z : Int32, z = (if x2 < x1 then x2 else x1) := ⟨_, rfl⟩
  refine own_S (T' := T40) (mkF m 178 #[iv ln, iv ca, iv cb, iv sh, rv la, rv ra, iv x1, iv x2, .unset, .unset, .unset, .unset, .unset, .unset] [(.int lo)]) (fun _ k => by subst h_lo; exact k) ?_
  refine own_S (mkF m 180 #[iv ln, iv ca, iv cb, iv sh, rv la, rv ra, iv x1, iv x2, iv lo, .unset, .unset, .unset, .unset, .unset] []) (fun _ k => XS.istore X40.here hx rfl (hb hby at_178) rfl (l' := #[iv ln, iv ca, iv cb, iv sh, rv la, rv ra, iv x1, iv x2, iv lo, .unset, .unset, .unset, .unset, .unset]) rfl k) ?_
  refine own_S (mkF m 182 #[iv ln, iv ca, iv cb, iv sh, rv la, rv ra, iv x1, iv x2, iv lo, .unset, .unset, .unset, .unset, .unset] [(.int x1)]) (fun _ k => XS.iload X40.here hx rfl (hb hby at_180) rfl k) ?_
  refine own_S (mkF m 184 #[iv ln, iv ca, iv cb, iv sh, rv la, rv ra, iv x1, iv x2, iv lo, .unset, .unset, .unset, .unset, .unset] [(.int x2), (.int x1)]) (fun _ k => XS.iload X40.here hx rfl (hb hby at_182) rfl k) ?_
  obtain ⟨_, _, ⟨T41, L41, k41, n41⟩, -, X41, ⟨Lc41, hQ41, l41, y41, z41⟩, st41⟩ := Jvm.LawKit.callS X40 hx (y := own_y1) hown (mvT hZ (own_g hw (i := 6) rfl)) (mvT hZ (own_g hw (i := 7) rfl)) (mvT hZ (own_g hw (i := 4) rfl)) (mvT hZ (own_g hw (i := 8) rfl)) (by decide) (backOf (W := 0) (own_rmma l Z a0 hw [] (x1) (x2) h37 n0 Z37 ) hZ (own_g hw (i := 8) rfl) (own_g hw (i := 4) rfl) (by decide) (by decide)) (g := (mkF m 184 #[iv ln, iv ca, iv cb, iv sh, rv la, rv ra, iv x1, iv x2, iv lo, .unset, .unset, .unset, .unset, .unset] [(.int x2), (.int x1)])) rfl (by rw [hml]; rfl) (argsL := [(.int x1), (.int x2)]) (rest := []) (lenOf own_pd__II_I rfl) rfl (by show 2 * 0 + _ ≤ _; exact Nat.le_of_eq rfl) (hb hby at_184) (fun _ _ => ⟨rfl, e40, (by decide : 2 + 0 ≤ _), (by decide : 13 + 0 ≤ _)⟩)
  dsimp only [Pt.U, Pt.locs, Pt.cells, Pt.slots] at X41 l41 y41 z41 st41 hQ41
  subst l41 y41 z41
  obtain ⟨rfl, N41q, e41⟩ := hQ41
  have N41 := Fr.app N40 N41q
  refine own_S (mkF m 187 #[iv ln, iv ca, iv cb, iv sh, rv la, rv ra, iv x1, iv x2, iv lo, .unset, .unset, .unset, .unset, .unset] [(.int (if x1 < x2 then x2 else x1))]) (fun _ k => st41 _ k) ?_
  obtain ⟨hi, h_hi⟩ : ∃ z : Int32, z = (if x1 < x2 then x2 else x1) := ⟨_, rfl⟩
  refine own_S (T' := T41) (mkF m 187 #[iv ln, iv ca, iv cb, iv sh, rv la, rv ra, iv x1, iv x2, iv lo, .unset, .unset, .unset, .unset, .unset] [(.int hi)]) (fun _ k => by subst h_hi; exact k) ?_
  refine own_S (mkF m 189 #[iv ln, iv ca, iv cb, iv sh, rv la, rv ra, iv x1, iv x2, iv lo, iv hi, .unset, .unset, .unset, .unset] []) (fun _ k => XS.istore X41.here hx rfl (hb hby at_187) rfl (l' := #[iv ln, iv ca, iv cb, iv sh, rv la, rv ra, iv x1, iv x2, iv lo, iv hi, .unset, .unset, .unset, .unset]) rfl k) ?_
  refine own_S (mkF m 190 #[iv ln, iv ca, iv cb, iv sh, rv la, rv ra, iv x1, iv x2, iv lo, iv hi, .unset, .unset, .unset, .unset] [(.int sh)]) (fun _ k => XS.iloadN X41.here hx rfl (hb hby at_189) rfl k) ?_
  refine own_S (mkF m 191 #[iv ln, iv ca, iv cb, iv sh, rv la, rv ra, iv x1, iv x2, iv lo, iv hi, .unset, .unset, .unset, .unset] [(.int 3), (.int sh)]) (fun _ k => XS.iconst X41.here hx rfl (hb hby at_190) k) ?_
  refine own_S (mkF m 192 #[iv ln, iv ca, iv cb, iv sh, rv la, rv ra, iv x1, iv x2, iv lo, iv hi, .unset, .unset, .unset, .unset] [(.int (sh &&& (3 : Int32)))]) (fun _ k => XS.iand X41.here hx rfl (hb hby at_191) rfl k) ?_
  refine own_S (mkF m 194 #[iv ln, iv ca, iv cb, iv sh, rv la, rv ra, iv x1, iv x2, iv lo, iv hi, iv (sh &&& (3 : Int32)), .unset, .unset, .unset] []) (fun _ k => XS.istore X41.here hx rfl (hb hby at_192) rfl (l' := #[iv ln, iv ca, iv cb, iv sh, rv la, rv ra, iv x1, iv x2, iv lo, iv hi, iv (sh &&& (3 : Int32)), .unset, .unset, .unset]) rfl k) ?_
  obtain ⟨nn, h_nn⟩ : ∃ z : Int32, z = (sh &&& (3 : Int32)) := ⟨_, rfl⟩
  refine own_S (T' := T41) (mkF m 194 #[iv ln, iv ca, iv cb, iv sh, rv la, rv ra, iv x1, iv x2, iv lo, iv hi, iv nn, .unset, .unset, .unset] []) (fun _ k => by subst h_nn; exact k) ?_
  have b_lo := own_b7lo x1 x2 lo h_lo b_x1 b_x2
  have b_hi := own_b7hi x1 x2 hi h_hi b_x1 b_x2
  have lohi := own_lohi x1 x2 lo hi h_lo h_hi
  have o_nn : nn = 0 ∨ nn = 1 ∨ nn = 2 ∨ nn = 3 := by rw [h_nn]; exact own_and3 _
  subst h_r2 h_r3 h_r4 h_r5 h_r6
  rcases o_nn with q42_0 | q43_1 | q44_2 | q45_3
  · -- nn = 0
    subst q42_0
    exact own_seg0 l Z a0 hw ln ca cb sh h0 n0 p e s m _ below meth c _ _ _ (la) (ra) (cA1) (cA15) (l0) (l1) (l2) (l3) (l4) (l5) (x1) (x2) (lo) (hi) hx hby hml hZ hown hlk hret X41 e41 N41 Z37 F38 F39 ge_la ge_ra n16 (by assumption) (by assumption) (by assumption) (by assumption)
  · -- nn = 1
    subst q43_1
    exact own_seg1 l Z a0 hw ln ca cb sh h0 n0 p e s m _ below meth c _ _ _ (la) (ra) (cA1) (cA15) (l0) (l1) (l2) (l3) (l4) (l5) (x1) (x2) (lo) (hi) hx hby hml hZ hown hlk hret X41 e41 N41 Z37 F38 F39 ge_la ge_ra n16 (by assumption) (by assumption) (by assumption) (by assumption)
  · -- nn = 2
    subst q44_2
    exact own_seg2 l Z a0 hw ln ca cb sh h0 n0 p e s m _ below meth c _ _ _ (la) (ra) (cA1) (cA15) (l0) (l1) (l2) (l3) (l4) (l5) (x1) (x2) (lo) (hi) hx hby hml hZ hown hlk hret X41 e41 N41 Z37 F38 F39 ge_la ge_ra n16 (by assumption) (by assumption) (by assumption) (by assumption)
  · -- nn = 3
    subst q45_3
    exact own_seg3 l Z a0 hw ln ca cb sh h0 n0 p e s m _ below meth c _ _ _ (la) (ra) (cA1) (cA15) (l0) (l1) (l2) (l3) (l4) (l5) (x1) (x2) (lo) (hi) hx hby hml hZ hown hlk hret X41 e41 N41 Z37 F38 F39 ge_la ge_ra n16 (by assumption) (by assumption) (by assumption) (by assumption)
set_option maxRecDepth 65536 in
set_option maxHeartbeats 40000000 in
theorem comes_1 {Post : Tables → Env → Array Value → State → Outcome → State → Prop} (hpost : ∀ tb e args s v u, (limb_1_1.after args s (.returned v) u = true ∧ limb_1_2.after args s (.returned v) u = true ∧ True) → FrameEnd s (.returned v) u (Jvm.fieldLocs frame_1_writes args s ++ Jvm.arrayLocs frame_1_arrays args s ++ Jvm.staticLocs frame_1_statics s) 24 128 → Post tb e args s (.returned v) u) :
    ArmFor flags0 classFile x code maxLocals ret World_1 tables_1 room_1 Calls_1 rest_1 Pre_1 Post := by
  intro l hfl _ _ p e ha hc hk s m args below hf hA hF happ hP
  obtain ⟨hcalls, hrest, hpre⟩ := hP
  obtain ⟨-, -, -, hnamed, -, -, -, hat⟩ := (Spec.applies_iff hf).mp happ
  obtain ⟨hg, hn⟩ := and_e (Cond.before_iff.mp (show (Jvm.Cond.and given_1 narrow_1).before args s = true from hpre))
  obtain ⟨h1, g0⟩ := and_e hg
  obtain ⟨k0, g1⟩ := and_e g0
  obtain ⟨k1, g2⟩ := and_e g1
  obtain ⟨k2, g3⟩ := and_e g2
  have k3 := g3
  obtain ⟨w0, w1, w2, w3, rfl⟩ : ∃ w0 w1 w2 w3 : Value, args = #[w0, w1, w2, w3] := by
    have hs : args.size = 4 := by simpa [Cond.value, given_1] using h1
    obtain ⟨L⟩ := args
    match L, hs with
    | [w0, w1, w2, w3], _ => exact ⟨w0, w1, w2, w3, rfl⟩
  have hw := fun d (hd : d ∈ tables_1) => atoms_spec (ws := Jvm.Cond.code x code maxLocals ret :: tables_1) hat d (List.mem_cons_of_mem _ hd)
  have hfit : Fit s := fun {y c} hc i hi => by
    obtain ⟨ha, rfl⟩ := Array.getElem?_eq_some_iff.mp hc
    have q := List.all_eq_true.mp ((Array.all_eq_true_iff_forall_mem.mp hF) _ (Array.getElem_mem ha)) i (List.mem_range.mpr hi)
    simpa [Array.getElem?_eq_getElem hi] using q
  obtain ⟨i0, q0⟩ := is_v k0
  obtain rfl : w0 = (.int i0) := Option.some.inj q0
  obtain ⟨i1, q1⟩ := is_v k1
  obtain rfl : w1 = (.int i1) := Option.some.inj q1
  obtain ⟨i2, q2⟩ := is_v k2
  obtain rfl : w2 = (.int i2) := Option.some.inj q2
  obtain ⟨i3, q3⟩ := is_v k3
  obtain rfl : w3 = (.int i3) := Option.some.inj q3
  obtain ⟨n, o, h1, h2, h3, _, L, rfl, ⟨rfl, N, -⟩, hq⟩ := own_rmlaw l s _ hw tables_1 i0 i1 i2 i3  s.heap s.heap.size (Nat.le_refl _)  p e ha hc hk s m _ below hf ((Spec.applies_iff_loose hf).mp happ).1 ⟨rfl, State.Warmed39.refl s, rfl⟩ trivial
  refine ⟨n, _, h1, h2, h3, hpost _ _ _ _ _ _ ⟨Cond.after_iff.mpr rfl, Cond.after_iff.mpr (eq_i res_at (Term.int_eval (1)) rfl), trivial⟩ ⟨hq.1, hq.2.1, (hq.2.2.sift fun y hy => Or.inr (N y hy)).mono (by decide) (by decide)⟩⟩
theorem main_1_1 : Claimed_1_1 := comes_1 fun _ _ _ _ _ _ h hF => ⟨h.1, hF⟩
theorem main_1_2 : Claimed_1_2 := comes_1 fun _ _ _ _ _ _ h hF => ⟨h.2.1, hF⟩
end Jvm.Pilot.@@N@@
namespace Jvm.Pilot.@@N@@
open Jvm Jvm.ClassFile Sem Op Lib Jvm.Free Jvm.Stand Jvm.Pilot.@@N@@.Jvm.D
/-! MADE BY PROGRAM (witnessworld.py) out of the Statement's table words and the real class files: 10 classes; the members and pool entries that the words name. The judged class is class 1, her method 1. -/
namespace start1
open Jvm.ClassFile
def u (s : String) : CpInfo := .utf8 (stringToUtf16 s)
/-- a pool by its gaps: so many unusable entries, then the entry; so many at the end -/
def gap : Nat → List CpInfo → List CpInfo
  | 0, r => r
  | n + 1, r => .unusable :: gap n r
def poolList (es : List (Nat × CpInfo)) (last : Nat) : List CpInfo := es.foldr (fun e r => gap e.1 (e.2 :: r)) (gap last [])
def pool (es : List (Nat × CpInfo)) (last : Nat) : Array CpInfo := ⟨poolList es last⟩
def fileOf (pool : Array CpInfo) (this : Nat) (attrs : Array Attribute := #[]) (ms : Array MethodInfo := #[]) (fl : Nat := 33) (sup : Nat := 0) (ifs : Array Nat := #[]) (fds : Array FieldInfo := #[]) : ClassFile where
  minorVersion := 0
  majorVersion := 65
  constantPool := pool
  accessFlags := fl
  thisClass := this
  superClass := sup
  interfaces := ifs
  fields := fds
  methods := ms
  attributes := attrs
def plain (name : String) (sup : Option ClassId) : Class where
  name := name
  kind := .ordinary
  loader := none
  accessFlags := 33
  super := sup
  interfaces := #[]
  cf := none
  fields := #[]
  methods := #[]
  instanceTypes := #[]
  staticTypes := #[]
  resolved := #[]
  callSites := []
  init := .initialized
  statics := none
  mirror := none

def pool0 : Array CpInfo := pool [(5, u "<init>"), (0, u "()V"), (1, .class_ 10), (1, u "java/lang/Object")] 113

def k0m0 : Method := { name := "<init>", desc := "()V", sig := { parameters := [], returnType := none }, accessFlags := 1, code := none }
/-- java/lang/Object -/
def k0 : Class := { plain "java/lang/Object" none with
  accessFlags := 33
  interfaces := #[]
  cf := some (fileOf pool0 8 #[] #[{ accessFlags := 1, nameIndex := 5, descriptorIndex := 6, attributes := #[] }] 33 0 #[] #[])
  fields := #[]
  methods := #[k0m0]
  instanceTypes := #[]
  staticTypes := #[]
  resolved := Array.replicate 124 none
  statics := none }

def pool1 : Array CpInfo := pool [(2, .class_ 4), (1, u "java/lang/Object"), (0, u "<init>"), (0, u "()V"), (0, .integer 2147483647), (0, .methodref 9 10), (0, .class_ 11), (0, .nameAndType 12 13), (0, u "java/lang/Math"), (0, u "min"), (0, u "(II)I"), (0, .methodref 9 15), (0, .nameAndType 16 13), (0, u "max"), (0, .methodref 18 19), (0, .class_ 20), (0, .nameAndType 21 22), (0, u "com/example/accrue/accrue/exact/Graph"), (0, u "stateRows"), (0, u "([I[I)[I"), (0, .methodref 24 25), (0, .class_ 26), (0, .nameAndType 27 28), (0, u "com/example/accrue/accrue/exact/GraphStateRowsPinLaw"), (0, u "moves"), (0, u "([III)I"), (2, u "law"), (0, u "(IIII)Z")] 5

def k1m0 : Method := { name := "<init>", desc := "()V", sig := { parameters := [], returnType := none }, accessFlags := 1, code := none }
def k1c1 : Code := { maxStack := 5, maxLocals := 14, code := code, exceptionTable := #[], attributes := #[] }
def k1m1 : Method := { name := "law", desc := "(IIII)Z", sig := { parameters := [.int, .int, .int, .int], returnType := some .boolean }, accessFlags := 9, code := some k1c1 }
def k1c2 : Code := { maxStack := 3, maxLocals := 4, code := method_3_code, exceptionTable := #[], attributes := #[] }
def k1m2 : Method := { name := "moves", desc := "([III)I", sig := { parameters := [(.array .int), .int, .int], returnType := some .int }, accessFlags := 10, code := some k1c2 }
/-- com/example/accrue/accrue/exact/GraphStateRowsPinLaw -/
def k1 : Class := { plain "com/example/accrue/accrue/exact/GraphStateRowsPinLaw" (some 0) with
  accessFlags := 49
  interfaces := #[]
  cf := some (fileOf pool1 24 #[] #[{ accessFlags := 1, nameIndex := 5, descriptorIndex := 6, attributes := #[] }, { accessFlags := 9, nameIndex := 31, descriptorIndex := 32, attributes := #[] }, { accessFlags := 10, nameIndex := 27, descriptorIndex := 28, attributes := #[] }] 49 2 #[] #[])
  fields := #[]
  methods := #[k1m0, k1m1, k1m2]
  instanceTypes := #[]
  staticTypes := #[]
  resolved := Array.replicate 38 none
  statics := none }

def pool2 : Array CpInfo := pool [(1, .class_ 2), (0, u "java/lang/Math"), (1, .class_ 6), (1, u "java/lang/Object"), (0, u "<init>"), (0, u "()V"), (89, .class_ 100), (1, u "java/lang/Math$RandomNumberGeneratorHolder"), (71, u "negativeZeroFloatBits"), (0, u "J"), (2, u "negativeZeroDoubleBits"), (21, u "max"), (2, u "min"), (43, u "$assertionsDisabled"), (0, u "Z"), (88, u "(II)I"), (2, u "twoToTheDoubleScaleDown"), (0, u "D"), (4, u "twoToTheDoubleScaleUp"), (9, u "E"), (3, u "PI"), (2, u "TAU"), (2, u "DEGREES_TO_RADIANS"), (0, u "RADIANS_TO_DEGREES")] 94

def k2m0 : Method := { name := "<init>", desc := "()V", sig := { parameters := [], returnType := none }, accessFlags := 2, code := none }
def k2c1 : Code := { maxStack := 2, maxLocals := 2, code := jdk_29_method_65_code, exceptionTable := #[], attributes := #[] }
def k2m1 : Method := { name := "max", desc := "(II)I", sig := { parameters := [.int, .int], returnType := some .int }, accessFlags := 9, code := some k2c1 }
def k2c2 : Code := { maxStack := 2, maxLocals := 2, code := jdk_29_method_69_code, exceptionTable := #[], attributes := #[] }
def k2m2 : Method := { name := "min", desc := "(II)I", sig := { parameters := [.int, .int], returnType := some .int }, accessFlags := 9, code := some k2c2 }
/-- java/lang/Math -/
def k2 : Class := { plain "java/lang/Math" (some 0) with
  accessFlags := 49
  interfaces := #[]
  cf := some (fileOf pool2 1 #[.nestMembers #[98]] #[{ accessFlags := 2, nameIndex := 7, descriptorIndex := 8, attributes := #[] }, { accessFlags := 9, nameIndex := 198, descriptorIndex := 335, attributes := #[] }, { accessFlags := 9, nameIndex := 201, descriptorIndex := 335, attributes := #[] }] 49 4 #[] #[{ accessFlags := 25, nameIndex := 354, descriptorIndex := 339, attributes := #[] }, { accessFlags := 25, nameIndex := 358, descriptorIndex := 339, attributes := #[] }, { accessFlags := 25, nameIndex := 361, descriptorIndex := 339, attributes := #[] }, { accessFlags := 26, nameIndex := 364, descriptorIndex := 339, attributes := #[] }, { accessFlags := 26, nameIndex := 365, descriptorIndex := 339, attributes := #[] }, { accessFlags := 26, nameIndex := 172, descriptorIndex := 173, attributes := #[] }, { accessFlags := 26, nameIndex := 176, descriptorIndex := 173, attributes := #[] }, { accessFlags := 8, nameIndex := 344, descriptorIndex := 339, attributes := #[] }, { accessFlags := 8, nameIndex := 338, descriptorIndex := 339, attributes := #[] }, { accessFlags := 4120, nameIndex := 245, descriptorIndex := 246, attributes := #[] }])
  fields := #[{ name := "E", type := .double, accessFlags := 25, slot := 0, constantValue := 0 }, { name := "PI", type := .double, accessFlags := 25, slot := 1, constantValue := 0 }, { name := "TAU", type := .double, accessFlags := 25, slot := 2, constantValue := 0 }, { name := "DEGREES_TO_RADIANS", type := .double, accessFlags := 26, slot := 3, constantValue := 0 }, { name := "RADIANS_TO_DEGREES", type := .double, accessFlags := 26, slot := 4, constantValue := 0 }, { name := "negativeZeroFloatBits", type := .long, accessFlags := 26, slot := 5, constantValue := 0 }, { name := "negativeZeroDoubleBits", type := .long, accessFlags := 26, slot := 6, constantValue := 0 }, { name := "twoToTheDoubleScaleUp", type := .double, accessFlags := 8, slot := 7, constantValue := 0 }, { name := "twoToTheDoubleScaleDown", type := .double, accessFlags := 8, slot := 8, constantValue := 0 }, { name := "$assertionsDisabled", type := .boolean, accessFlags := 4120, slot := 9, constantValue := 0 }]
  methods := #[k2m0, k2m1, k2m2]
  instanceTypes := #[]
  staticTypes := #[.double, .double, .double, .double, .double, .long, .long, .double, .double, .boolean]
  resolved := Array.replicate 460 none
  statics := none }

def pool3 : Array CpInfo := pool [(2, .class_ 4), (1, u "java/lang/Object"), (3, .class_ 10), (1, u "com/example/accrue/accrue/exact/Graph"), (0, u "choiceStart"), (0, u "[I"), (2, u "rowStart"), (2, u "successors"), (2, u "stateCount"), (0, u "I"), (8, u "choices"), (0, u "Lcom/example/accrue/accrue/exact/Predecessors;"), (2, u "owner"), (2, u "states"), (123, u "stateRows"), (0, u "([I[I)[I")] 41

def k3c0 : Code := { maxStack := 5, maxLocals := 5, code := prog_18_method_4_code, exceptionTable := #[], attributes := #[] }
def k3m0 : Method := { name := "stateRows", desc := "([I[I)[I", sig := { parameters := [(.array .int), (.array .int)], returnType := some (.array .int) }, accessFlags := 8, code := some k3c0 }
/-- com/example/accrue/accrue/exact/Graph -/
def k3 : Class := { plain "com/example/accrue/accrue/exact/Graph" (some 0) with
  accessFlags := 48
  interfaces := #[]
  cf := some (fileOf pool3 8 #[] #[{ accessFlags := 8, nameIndex := 162, descriptorIndex := 163, attributes := #[] }] 48 2 #[] #[{ accessFlags := 18, nameIndex := 11, descriptorIndex := 12, attributes := #[] }, { accessFlags := 18, nameIndex := 15, descriptorIndex := 12, attributes := #[] }, { accessFlags := 18, nameIndex := 18, descriptorIndex := 12, attributes := #[] }, { accessFlags := 18, nameIndex := 21, descriptorIndex := 22, attributes := #[] }, { accessFlags := 18, nameIndex := 31, descriptorIndex := 32, attributes := #[] }, { accessFlags := 18, nameIndex := 35, descriptorIndex := 12, attributes := #[] }, { accessFlags := 2, nameIndex := 38, descriptorIndex := 32, attributes := #[] }])
  fields := #[{ name := "choiceStart", type := (.array .int), accessFlags := 18, slot := 0, constantValue := 0 }, { name := "rowStart", type := (.array .int), accessFlags := 18, slot := 1, constantValue := 0 }, { name := "successors", type := (.array .int), accessFlags := 18, slot := 2, constantValue := 0 }, { name := "stateCount", type := .int, accessFlags := 18, slot := 3, constantValue := 0 }, { name := "choices", type := (.object "com/example/accrue/accrue/exact/Predecessors"), accessFlags := 18, slot := 4, constantValue := 0 }, { name := "owner", type := (.array .int), accessFlags := 18, slot := 5, constantValue := 0 }, { name := "states", type := (.object "com/example/accrue/accrue/exact/Predecessors"), accessFlags := 2, slot := 6, constantValue := 0 }]
  methods := #[k3m0]
  instanceTypes := #[(.array .int), (.array .int), (.array .int), .int, (.object "com/example/accrue/accrue/exact/Predecessors"), (.array .int), (.object "com/example/accrue/accrue/exact/Predecessors")]
  staticTypes := #[]
  resolved := Array.replicate 205 none
  statics := none }

def pool4 : Array CpInfo := pool [(1, u "java/lang/Cloneable"), (0, .class_ 1), (0, u "java/lang/Object"), (0, .class_ 3)] 3

/-- java/lang/Cloneable -/
def k4 : Class := { plain "java/lang/Cloneable" (some 0) with
  accessFlags := 1537
  interfaces := #[]
  cf := some (fileOf pool4 2 #[] #[] 1537 4 #[] #[])
  fields := #[]
  methods := #[]
  instanceTypes := #[]
  staticTypes := #[]
  resolved := Array.replicate 8 none
  statics := none }

def pool5 : Array CpInfo := pool [(1, u "java/io/Serializable"), (0, .class_ 1), (0, u "java/lang/Object"), (0, .class_ 3)] 3

/-- java/io/Serializable -/
def k5 : Class := { plain "java/io/Serializable" (some 0) with
  accessFlags := 1537
  interfaces := #[]
  cf := some (fileOf pool5 2 #[] #[] 1537 4 #[] #[])
  fields := #[]
  methods := #[]
  instanceTypes := #[]
  staticTypes := #[]
  resolved := Array.replicate 8 none
  statics := none }

/-- the primitive byte -/
def k6 : Class := { plain "byte" none with kind := .primitive 'B', accessFlags := 0x411 }
/-- [B -/
def k7 : Class := { plain "[B" (some 0) with kind := .array 6 .byte, interfaces := #[4, 5], accessFlags := 1041 }

/-- the primitive int -/
def k8 : Class := { plain "int" none with kind := .primitive 'I', accessFlags := 0x411 }
/-- [I -/
def k9 : Class := { plain "[I" (some 0) with kind := .array 8 .int, interfaces := #[4, 5], accessFlags := 1041 }

def heap : Heap := #[]
def classes : Array Class := #[k0, k1, k2, k3, k4, k5, k6, k7, k8, k9]
def interned : List (Array UInt16 × Addr) := []
def slotsUsed : Nat := 0
def theMethod : MethodId := ⟨1, 1⟩
def args0 : Array Value := #[.int 5, .int 3, .int 4, .int 1]
def aboutOver (below : List Frame) : State where
  vm := { classes := classes, interned := interned.toArray }
  heap := heap
  slotsUsed := slotsUsed
  threads := #[{ frames := .invoking theMethod args0 :: below }]
def below0 : List Frame := [.native { method := ⟨0, 0⟩, args := #[] }]
def about1 : State := aboutOver below0
def p0 : Program := .bare "" "" ""
def e0 : Env := launch0.env 0 0 0
theorem w_frames : about1.frames = Frame.invoking theMethod args0 :: below0 := rfl
set_option maxRecDepth 65536 in
theorem w_args : argsFit about1.vm theMethod args0 = true := by decide +kernel
set_option maxRecDepth 65536 in
theorem w_heap : heapFits about1 = true := by decide +kernel
set_option maxRecDepth 65536 in
theorem w_runnable : about1.curStatus? = some .runnable := by decide +kernel
set_option maxRecDepth 65536 in
theorem w_alone : about1.alone = true := by decide +kernel
set_option maxRecDepth 65536 in
theorem w_named : about1.methodNamed? x = some theMethod := by decide +kernel
set_option maxRecDepth 65536 in
theorem w_hears : about1.hears theMethod below0 = true := by decide +kernel
set_option maxRecDepth 65536 in
theorem w_ripe : about1.ripe theMethod args0 below0 = true := by decide +kernel
theorem w_running : about1.status = .running := rfl
set_option maxRecDepth 65536 in
theorem w_room : about1.hasRoom e0.platform room_1 = true :=
  launch0.hasRoom_least _ room_1 (by decide +kernel) (by decide +kernel) (by decide +kernel) (by decide +kernel) (by decide +kernel) (by decide +kernel)
theorem allAtoms_all (ts : List Jvm.Cond) (a : Array Jvm.Value) (st : Jvm.State) : (allAtoms ts).before a st = ts.all (fun c => c.before a st) := by
  induction ts with
  | nil => rfl
  | cons c t ih =>
    show (Jvm.Cond.and c (allAtoms t)).before a st = _
    rw [Jvm.Cond.before_and, ih, List.all_cons]
def words1 : List Jvm.Cond := Jvm.Cond.code x code maxLocals ret :: tables_1
/-- a 'code' word, met by the world's own term for the bytes: nothing is compared byte by byte -/
theorem code_word {y : MethodName} {bytes : ByteArray} {mx : Nat} {rt : Option FieldType} {a : Array Value} {s : State} {m : MethodId} {meth : Method} {c : Code} (h1 : s.methodNamed? y = some m) (h2 : s.vm.method? m = some meth) (h3 : meth.code = some c) (h4 : c.code = bytes)
    (h5 : (c.maxLocals == mx && c.exceptionTable.isEmpty && decide (c.maxStack ≤ mostOperands) && decide (meth.sig.returnType = rt) && !meth.locks && decide (parseMethodDescriptor y.desc = some meth.sig)) = true) : (Jvm.Cond.code y bytes mx rt).before a s = true := by
  simp only [Bool.and_eq_true, beq_iff_eq, Bool.not_eq_true', decide_eq_true_eq] at h5
  obtain ⟨⟨⟨⟨⟨g1, g2⟩, g3⟩, g4⟩, g5⟩, g6⟩ := h5
  simp [Cond.before, Cond.holds, Cond.value, h1, h2, h3, h4, g1, g2, g3, g4, g5, g6]
def isCode : Jvm.Cond → Bool
  | .code _ _ _ _ => true
  | _ => false
theorem all_split {L : List Jvm.Cond} {P : Jvm.Cond → Bool} (h1 : L.all (fun c => isCode c || P c) = true) (h2 : ∀ c ∈ L.filter isCode, P c = true) : L.all P = true := by
  refine List.all_eq_true.mpr fun c hc => ?_
  have h := List.all_eq_true.mp h1 c hc
  rcases Bool.eq_false_or_eq_true (isCode c) with hi | hi
  · exact h2 c (List.mem_filter.mpr ⟨hc, hi⟩)
  · simpa [hi] using h
set_option maxRecDepth 65536 in
theorem w_c0 : (Jvm.Cond.code x code maxLocals ret).before args0 about1 = true := code_word (m := ⟨1, 1⟩) (meth := k1m1) (c := k1c1) (by decide +kernel) rfl rfl rfl (by decide +kernel)
set_option maxRecDepth 65536 in
theorem w_c1 : (Jvm.Cond.code ({ cls := "java/lang/Math", name := "min", desc := "(II)I" } : Jvm.MethodName) jdk_29_method_69_code (2 : Nat) (Option.some Jvm.ClassFile.FieldType.int)).before args0 about1 = true := code_word (m := ⟨2, 2⟩) (meth := k2m2) (c := k2c2) (by decide +kernel) rfl rfl rfl (by decide +kernel)
set_option maxRecDepth 65536 in
theorem w_c2 : (Jvm.Cond.code ({ cls := "java/lang/Math", name := "max", desc := "(II)I" } : Jvm.MethodName) jdk_29_method_65_code (2 : Nat) (Option.some Jvm.ClassFile.FieldType.int)).before args0 about1 = true := code_word (m := ⟨2, 1⟩) (meth := k2m1) (c := k2c1) (by decide +kernel) rfl rfl rfl (by decide +kernel)
set_option maxRecDepth 65536 in
theorem w_c3 : (Jvm.Cond.code ({ cls := "com/example/accrue/accrue/exact/Graph", name := "stateRows", desc := "([I[I)[I" } : Jvm.MethodName) prog_18_method_4_code (5 : Nat) (Option.some (Jvm.ClassFile.FieldType.array Jvm.ClassFile.FieldType.int))).before args0 about1 = true := code_word (m := ⟨3, 0⟩) (meth := k3m0) (c := k3c0) (by decide +kernel) rfl rfl rfl (by decide +kernel)
set_option maxRecDepth 65536 in
theorem w_c4 : (Jvm.Cond.code ({ cls := "com/example/accrue/accrue/exact/GraphStateRowsPinLaw", name := "moves", desc := "([III)I" } : Jvm.MethodName) method_3_code (4 : Nat) (Option.some Jvm.ClassFile.FieldType.int)).before args0 about1 = true := code_word (m := ⟨1, 2⟩) (meth := k1m2) (c := k1c2) (by decide +kernel) rfl rfl rfl (by decide +kernel)
def codes1 : List Jvm.Cond := [Jvm.Cond.code x code maxLocals ret, Jvm.Cond.code ({ cls := "java/lang/Math", name := "min", desc := "(II)I" } : Jvm.MethodName) jdk_29_method_69_code (2 : Nat) (Option.some Jvm.ClassFile.FieldType.int), Jvm.Cond.code ({ cls := "java/lang/Math", name := "max", desc := "(II)I" } : Jvm.MethodName) jdk_29_method_65_code (2 : Nat) (Option.some Jvm.ClassFile.FieldType.int), Jvm.Cond.code ({ cls := "com/example/accrue/accrue/exact/Graph", name := "stateRows", desc := "([I[I)[I" } : Jvm.MethodName) prog_18_method_4_code (5 : Nat) (Option.some (Jvm.ClassFile.FieldType.array Jvm.ClassFile.FieldType.int)), Jvm.Cond.code ({ cls := "com/example/accrue/accrue/exact/GraphStateRowsPinLaw", name := "moves", desc := "([III)I" } : Jvm.MethodName) method_3_code (4 : Nat) (Option.some Jvm.ClassFile.FieldType.int)]
set_option maxRecDepth 65536 in
theorem codes_eq : words1.filter isCode = codes1 := rfl
theorem w_codes : ∀ c ∈ words1.filter isCode, c.before args0 about1 = true := by
  rw [codes_eq]
  intro c hc
  simp only [codes1, List.mem_cons, List.not_mem_nil, or_false] at hc
  rcases hc with rfl | rfl | rfl | rfl | rfl
  · exact w_c0
  · exact w_c1
  · exact w_c2
  · exact w_c3
  · exact w_c4
set_option maxRecDepth 65536 in
theorem w_t1 : words1.all (fun c => isCode c || c.before args0 about1) = true := by decide +kernel
theorem w_tables : (allAtoms (Jvm.Cond.code x code maxLocals ret :: tables_1)).before args0 about1 = true := by
  rw [allAtoms_all]
  show words1.all (fun c => c.before args0 about1) = true
  refine all_split ?_ w_codes
  rw [w_t1]
set_option maxRecDepth 65536 in
theorem w_case : (Jvm.Cond.and given_1 narrow_1).before args0 about1 = true := by decide +kernel
theorem w_applies : (headSpec (Jvm.Cond.code x code maxLocals ret :: tables_1) room_1).applies x e0.platform about1 = true :=
  (Spec.applies_iff w_frames).mpr ⟨w_running, w_runnable, w_alone, w_named, w_hears, w_ripe, w_room, w_tables⟩
theorem atStart : AtStart classFile x code maxLocals ret World_1 tables_1 room_1 Calls_1 rest_1 Pre_1 launch0 p0 e0 about1 theMethod args0 below0 :=
  ⟨lists_1, trivial, launch0.admits_env _ _ _, launch0.least_env, fairChoices_fair.cas, fairChoices_fair.clock, w_frames, w_args, w_heap, w_applies, trivial, trivial, w_case⟩
end start1
theorem witness_1 : WitnessClaimed_1 := ⟨start1.p0, start1.e0, start1.about1, start1.theMethod, start1.args0, start1.below0, start1.atStart⟩
end Jvm.Pilot.@@N@@
