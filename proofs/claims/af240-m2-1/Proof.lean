import JvmDerived
import JvmDerived.Pilot.@@N@@Statement
import JvmDerived.Pilot.@@N@@Code
set_option linter.unusedVariables false
set_option linter.unusedSimpArgs false
namespace Jvm.Pilot.@@N@@
open Jvm Jvm.ClassFile Sem Op Lib Jvm.Free Jvm.Stand Jvm.LawKit Jvm.RoadKit Bundle Jvm.Pilot.@@N@@.Jvm.D
theorem own_g {Z : State} {a0 : Array Value} (hw : ∀ d ∈ tables_1, d.before a0 Z = true) {i : Nat} {d : Jvm.Cond} (h : tables_1[i]? = some d) : d.before a0 Z = true := hw _ (List.mem_of_getElem? h)
/-- the walk from the frame g in the state T comes to an end of which K holds -/
def own_E (p : Program) (e : Env) (below : List Frame) (K : Outcome → State → Prop) (T : State) (g : JFrame) : Prop := ∃ s₂ o, Steps p.tables e below (T.setTop g) s₂ ∧ s₂.status = .running ∧ Ended s₂ below o ∧ K o s₂
def own_K (s : State) (Q : Option Value → Heap → List Loc → Prop) (kc ks : Nat) (o : Outcome) (U : State) : Prop := ∃ v L, o = .returned v ∧ Q v U.heap L ∧ FrameEnd s o U L kc ks
section OwnKit
variable {p : Program} {l : Launch} {e : Env} {R : Room} {s : State} {m : MethodId} {args : Array Value} {below : List Frame} {meth : Method} {c : Code} {T T' : State} {locs : List Loc} {cells slots : Nat} {K : Outcome → State → Prop} {Z : State} {h h' : Heap}
theorem own_S {g : JFrame} (g' : JFrame) (st : ∀ t, Steps p.tables e below (T'.setTop g') t → Steps p.tables e below (T.setTop g) t) (k : own_E p e below K T' g') : own_E p e below K T g := by
  obtain ⟨s₂, o, h1, h2⟩ := k
  exact ⟨s₂, o, st _ h1, h2⟩
theorem own_s {g : JFrame} {t : State} (g' : JFrame) (st : ∀ t, Steps p.tables e below (T'.setTop g') t → Steps p.tables e below (T.setTop g) t) (k : Steps p.tables e below (T'.setTop g') t) : Steps p.tables e below (T.setTop g) t := st t k
theorem own_ret {Q : Option Value → Heap → List Loc → Prop} {kc ks : Nat} (X : Stand p l e R s m args below meth c T locs cells slots) (hx : p.tables.exec = Jvm.exec) (hlk : meth.locks = false) {pc : Nat} {Ls : Array Slot} {w : Value} {t : FieldType} {i : Instr} {rest : List Value} (hret : meth.sig.returnType = some t) (hn : narrow t w = w)
    (hi : (i = .ireturn ∧ (t = .int ∨ t = .boolean ∨ t = .byte ∨ t = .char ∨ t = .short) ∧ ∃ z, w = .int z) ∨ (i = .lreturn ∧ t = .long ∧ ∃ z, w = .long z) ∨ (i = .dreturn ∧ t = .double ∧ ∃ z, w = .double z) ∨ (i = .freturn ∧ t = .float ∧ ∃ z, w = .float z) ∨ (i = .areturn ∧ t.isReference = true ∧ w.isRef = true))
    (hd : decode c.code pc = .ok (i, 1)) (hQ : Q (some w) T.heap locs) (h1 : cells ≤ kc) (h2 : slots ≤ ks) : own_E p e below (own_K s Q kc ks) T (mkF m pc Ls (w :: rest)) := by
  obtain ⟨fs, hr, hrun, hended, hW, hsame⟩ := X.leave (v := some w) (fun h => by rw [hret] at h; cases h) hlk
  exact ⟨_, _, retOut X hx hret hn hi hd hr, hrun, hended, _, _, rfl, hQ, ⟨_, rfl⟩, hW, hsame.mono h1 h2⟩
theorem own_retN {Q : Option Value → Heap → List Loc → Prop} {kc ks : Nat} (X : Stand p l e R s m args below meth c T locs cells slots) (hx : p.tables.exec = Jvm.exec) (hlk : meth.locks = false) {pc : Nat} {Ls : Array Slot} {z : Int32} {t : FieldType} {rest : List Value} (hret : meth.sig.returnType = some t) (ht : t = .boolean ∨ t = .byte ∨ t = .char ∨ t = .short)
    (hd : decode c.code pc = .ok (.ireturn, 1)) (hQ : Q (some (.int (nar t z))) T.heap locs) (h1 : cells ≤ kc) (h2 : slots ≤ ks) : own_E p e below (own_K s Q kc ks) T (mkF m pc Ls (.int z :: rest)) := by
  obtain ⟨fs, hr, hrun, hended, hW, hsame⟩ := X.leave (v := some (.int (nar t z))) (fun h => by rw [hret] at h; cases h) hlk
  exact ⟨_, _, retN X hx hret ht hd hr, hrun, hended, _, _, rfl, hQ, ⟨_, rfl⟩, hW, hsame.mono h1 h2⟩
theorem own_ret0 {Q : Option Value → Heap → List Loc → Prop} {kc ks : Nat} (X : Stand p l e R s m args below meth c T locs cells slots) (hx : p.tables.exec = Jvm.exec) (hlk : meth.locks = false) {pc : Nat} {Ls : Array Slot} (hret : meth.sig.returnType = none)
    (hd : decode c.code pc = .ok (.return_, 1)) (hQ : Q none T.heap locs) (h1 : cells ≤ kc) (h2 : slots ≤ ks) : own_E p e below (own_K s Q kc ks) T (mkF m pc Ls []) := by
  obtain ⟨fs, hr, hrun, hended, hW, hsame⟩ := X.leave (v := none) (fun _ => rfl) hlk
  exact ⟨_, _, X.returnOut hx hret hd hr, hrun, hended, _, _, rfl, hQ, ⟨_, rfl⟩, hW, hsame.mono h1 h2⟩
theorem own_weak (X : Stand p l e R s m args below meth c T locs cells slots) {locs' : List Loc} {kc ks : Nat} (hl : ∀ y ∈ locs, y ∈ locs' ∨ s.heap.size ≤ y.base) (h1 : cells ≤ kc) (h2 : slots ≤ ks) : Stand p l e R s m args below meth c T locs' kc ks :=
  { X with same := (X.same.sift hl).mono h1 h2 }
theorem Sta_keep {C n d : String} {w : Value} {ws : List Addr} {n0 : Nat} (F : Sta Z h C n d w) (K : Keep h h' ws) (hn : ∀ a ∈ ws, ∀ cell : Cell, h[a]? = some cell → cell.vm.isStatics = false) : Sta Z h' C n d w := by
  obtain ⟨cf, i, k, f, st, cell, h1, h2, h3, h4, h5, h6, h7⟩ := F
  exact ⟨cf, i, k, f, st, cell, h1, h2, h3, h4, K.2.1 st cell h5 (fun q => by have := hn st q cell h5; rw [h6] at this; cases this), h6, h7⟩
theorem Ins_keep {a : Addr} {C : String} {b : Bool} {ws : List Addr} (F : Ins Z h a C b) (K : Keep h h' ws) : Ins Z h' a C b := by
  obtain ⟨cell, cT, h1, h2, h3⟩ := F
  obtain ⟨c', q1, q2, q3, -⟩ := K.2.2 a cell h1
  exact ⟨c', cT, q1, h2, by rw [q2, q3]; exact h3⟩
end OwnKit
/-- an array whose places hold vs -/
def own_Ar (Z : State) (h : Heap) (a : Addr) (k : ClassId) (ty : FieldType) (vs : List Value) : Prop := ∃ c : Cell, Arr Z h a c ty ∧ c.cls = k ∧ c.slots = vs.toArray
section OwnArr
variable {p : Program} {l : Launch} {e : Env} {R : Room} {s : State} {m : MethodId} {args : Array Value} {below : List Frame} {meth : Method} {c : Code} {T : State} {locs : List Loc} {cells slots : Nat} {Z : State} {h h' : Heap} {a b : Addr} {k : ClassId} {ty : FieldType} {vs : List Value} {v : Value}
theorem own_Ar.lt (F : own_Ar Z h a k ty vs) : a < h.size := by obtain ⟨c, A, -⟩ := F; exact A.lt
theorem own_Ar.ext (F : own_Ar Z h a k ty vs) (E : Ext h h') : own_Ar Z h' a k ty vs := by obtain ⟨c, A, r⟩ := F; exact ⟨c, A.ext E, r⟩
theorem own_Ar.other {sl : Nat} (F : own_Ar Z h b k ty vs) (W : Wr h h' a sl v) (q : b ≠ a) : own_Ar Z h' b k ty vs := by obtain ⟨c, A, r⟩ := F; exact ⟨c, A.other W q, r⟩
theorem own_Ar.keep {ws : List Addr} (F : own_Ar Z h a k ty vs) (K : Keep h h' ws) (q : a ∉ ws) : own_Ar Z h' a k ty vs := by obtain ⟨c, A, r⟩ := F; exact ⟨c, ⟨K.2.1 a c A.1 q, A.2⟩, r⟩
theorem own_Ar.new {z : Int32} (A : Arr Z h a (newA k ty z) ty) {n : Nat} (hn : z.toNatClampNeg = n) : own_Ar Z h a k ty (List.replicate n (defaultValue ty)) := ⟨_, A, rfl, by
  subst hn
  show Array.replicate _ _ = _
  simp⟩
theorem own_Ar.set {j : Nat} (F : own_Ar Z h a k ty vs) (W : Wr h h' a j v) : own_Ar Z h' a k ty (vs.set j v) := by
  obtain ⟨c, A, hk, hs⟩ := F
  refine ⟨c.setSlot j v, A.same W, hk, ?_⟩
  show c.slots.setIfInBounds j v = _
  rw [hs]
  simp
theorem own_in {c : Cell} (hs : c.slots = vs.toArray) {j : Int32} (hj : ¬ j < 0) (hl : j.toNatClampNeg < vs.length) : ¬ (j < 0 ∨ c.slots.size ≤ j.toNatClampNeg) := by
  rw [hs]
  simp only [List.size_toArray]
  intro q
  rcases q with q | q
  · exact hj q
  · omega
theorem own_lt_of {i : Nat} (hv : vs[i]? = some v) : i < vs.length := (List.getElem?_eq_some_iff.mp hv).1
theorem own_get {c : Cell} (hs : c.slots = vs.toArray) {i : Nat} (hv : vs[i]? = some v) : c.slots[i]? = some v := by rw [hs]; simpa using hv
theorem own_ldI (X : Stand p l e R s m args below meth c T locs cells slots) (hx : p.tables.exec = Jvm.exec) (hZ : Z.Warmed39 s.vm) (eT : T.heap = h) (F : own_Ar Z h a k .int vs) {j : Int32} (hj : ¬ j < 0) (hv : vs[j.toNatClampNeg]? = some v) {g : JFrame} (hg : g.method = m) {rest : List Value} (hs : g.stack = .int j :: .ref a :: rest) (hd : decode c.code g.pc = .ok (.iaload, 1)) :
    ∀ t, Steps p.tables e below (T.setTop { g with pc := g.pc + 1, stack := v :: rest }) t → Steps p.tables e below (T.setTop g) t := fun t q => by
  obtain ⟨cl, A, -, hs'⟩ := F
  exact X.iaload hx (by rw [eT]; exact A.1) (State.isArrayOf_alike hZ.alike A.2.1) A.2.2 (own_in hs' hj (own_lt_of hv)) (own_get hs' hv) hg hs hd t q
theorem own_ldJ (X : Stand p l e R s m args below meth c T locs cells slots) (hx : p.tables.exec = Jvm.exec) (hZ : Z.Warmed39 s.vm) (eT : T.heap = h) (F : own_Ar Z h a k .long vs) {j : Int32} (hj : ¬ j < 0) (hv : vs[j.toNatClampNeg]? = some v) {g : JFrame} (hg : g.method = m) {rest : List Value} (hs : g.stack = .int j :: .ref a :: rest) (hd : decode c.code g.pc = .ok (.laload, 1)) :
    ∀ t, Steps p.tables e below (T.setTop { g with pc := g.pc + 1, stack := v :: rest }) t → Steps p.tables e below (T.setTop g) t := fun t q => by
  obtain ⟨cl, A, -, hs'⟩ := F
  exact X.laload hx (by rw [eT]; exact A.1) (State.isArrayOf_alike hZ.alike A.2.1) A.2.2 (own_in hs' hj (own_lt_of hv)) (own_get hs' hv) hg hs hd t q
theorem own_ldZ (X : Stand p l e R s m args below meth c T locs cells slots) (hx : p.tables.exec = Jvm.exec) (hZ : Z.Warmed39 s.vm) (eT : T.heap = h) (F : own_Ar Z h a k .boolean vs) {j : Int32} (hj : ¬ j < 0) (hv : vs[j.toNatClampNeg]? = some v) {g : JFrame} (hg : g.method = m) {rest : List Value} (hs : g.stack = .int j :: .ref a :: rest) (hd : decode c.code g.pc = .ok (.baload, 1)) :
    ∀ t, Steps p.tables e below (T.setTop { g with pc := g.pc + 1, stack := v :: rest }) t → Steps p.tables e below (T.setTop g) t := fun t q => by
  obtain ⟨cl, A, -, hs'⟩ := F
  exact X.baloadBooleans hx (by rw [eT]; exact A.1) (State.isArrayOf_alike hZ.alike A.2.1) A.2.2 (own_in hs' hj (own_lt_of hv)) (own_get hs' hv) hg hs hd t q
theorem own_ldR (X : Stand p l e R s m args below meth c T locs cells slots) (hx : p.tables.exec = Jvm.exec) (hZ : Z.Warmed39 s.vm) (eT : T.heap = h) (F : own_Ar Z h a k ty vs) {j : Int32} (hj : ¬ j < 0) (hv : vs[j.toNatClampNeg]? = some v) (hty : ty.isReference = true) {g : JFrame} (hg : g.method = m) {rest : List Value} (hs : g.stack = .int j :: .ref a :: rest) (hd : decode c.code g.pc = .ok (.aaload, 1)) :
    ∀ t, Steps p.tables e below (T.setTop { g with pc := g.pc + 1, stack := v :: rest }) t → Steps p.tables e below (T.setTop g) t := fun t q => by
  obtain ⟨cl, A, -, hs'⟩ := F
  exact X.aaload hx (by rw [eT]; exact A.1) (State.isArrayOf_alike hZ.alike A.2.1) hty A.2.2 (own_in hs' hj (own_lt_of hv)) (own_get hs' hv) hg hs hd t q
theorem own_alen (X : Stand p l e R s m args below meth c T locs cells slots) (hx : p.tables.exec = Jvm.exec) (hZ : Z.Warmed39 s.vm) (eT : T.heap = h) (F : own_Ar Z h a k ty vs) {g : JFrame} (hg : g.method = m) {rest : List Value} (hs : g.stack = .ref a :: rest) (hd : decode c.code g.pc = .ok (.arraylength, 1)) :
    ∀ t, Steps p.tables e below (T.setTop { g with pc := g.pc + 1, stack := .int vs.length.toInt32 :: rest }) t → Steps p.tables e below (T.setTop g) t := fun t q => by
  obtain ⟨cl, A, -, hs'⟩ := F
  have hl : cl.slots.size = vs.length := by rw [hs']; simp
  rw [← hl] at q
  exact X.arraylength hx (by rw [eT]; exact A.1) (State.isArrayOf_alike hZ.alike A.2.1) hg hs hd t q
theorem own_stI (X : Stand p l e R s m args below meth c T locs cells slots) (hx : p.tables.exec = Jvm.exec) (hZ : Z.Warmed39 s.vm) (eT : T.heap = h) (F : own_Ar Z h a k .int vs) {j x : Int32} (hj : ¬ j < 0) (hl : j.toNatClampNeg < vs.length) {g : JFrame} (hg : g.method = m) {rest : List Value} (hs : g.stack = .int x :: .int j :: .ref a :: rest) (hd : decode c.code g.pc = .ok (.iastore, 1)) :
    ∃ T' h', Stand p l e R s m args below meth c T' (locs ++ [⟨a, j.toNatClampNeg⟩]) cells slots ∧ T'.heap = h' ∧ Wr h h' a j.toNatClampNeg (.int x) ∧ own_Ar Z h' a k .int (vs.set j.toNatClampNeg (.int x)) ∧ ∀ t, Steps p.tables e below (T'.setTop { g with pc := g.pc + 1, stack := rest }) t → Steps p.tables e below (T.setTop g) t := by
  have F0 := F
  obtain ⟨cl, A, -, hs'⟩ := F
  obtain ⟨T', h', X', e', W, st⟩ := stI X hx hZ eT A (own_in hs' hj hl) hg hs hd
  exact ⟨T', h', X', e', W, F0.set W, st⟩
theorem own_stJ (X : Stand p l e R s m args below meth c T locs cells slots) (hx : p.tables.exec = Jvm.exec) (hZ : Z.Warmed39 s.vm) (eT : T.heap = h) (F : own_Ar Z h a k .long vs) {j : Int32} {x : Int64} (hj : ¬ j < 0) (hl : j.toNatClampNeg < vs.length) {g : JFrame} (hg : g.method = m) {rest : List Value} (hs : g.stack = .long x :: .int j :: .ref a :: rest) (hd : decode c.code g.pc = .ok (.lastore, 1)) :
    ∃ T' h', Stand p l e R s m args below meth c T' (locs ++ [⟨a, j.toNatClampNeg⟩]) cells slots ∧ T'.heap = h' ∧ Wr h h' a j.toNatClampNeg (.long x) ∧ own_Ar Z h' a k .long (vs.set j.toNatClampNeg (.long x)) ∧ ∀ t, Steps p.tables e below (T'.setTop { g with pc := g.pc + 1, stack := rest }) t → Steps p.tables e below (T.setTop g) t := by
  have F0 := F
  obtain ⟨cl, A, -, hs'⟩ := F
  obtain ⟨T', h', X', e', W, st⟩ := stJ X hx hZ eT A (own_in hs' hj hl) hg hs hd
  exact ⟨T', h', X', e', W, F0.set W, st⟩
theorem own_stZ (X : Stand p l e R s m args below meth c T locs cells slots) (hx : p.tables.exec = Jvm.exec) (hZ : Z.Warmed39 s.vm) (eT : T.heap = h) (F : own_Ar Z h a k .boolean vs) {j x : Int32} (hj : ¬ j < 0) (hl : j.toNatClampNeg < vs.length) {g : JFrame} (hg : g.method = m) {rest : List Value} (hs : g.stack = .int x :: .int j :: .ref a :: rest) (hd : decode c.code g.pc = .ok (.bastore, 1)) :
    ∃ T' h', Stand p l e R s m args below meth c T' (locs ++ [⟨a, j.toNatClampNeg⟩]) cells slots ∧ T'.heap = h' ∧ Wr h h' a j.toNatClampNeg (.int (nar .boolean x)) ∧ own_Ar Z h' a k .boolean (vs.set j.toNatClampNeg (.int (nar .boolean x))) ∧ ∀ t, Steps p.tables e below (T'.setTop { g with pc := g.pc + 1, stack := rest }) t → Steps p.tables e below (T.setTop g) t := by
  have F0 := F
  obtain ⟨cl, A, -, hs'⟩ := F
  obtain ⟨T', h', X', e', W, st⟩ := stZ X hx hZ eT A (own_in hs' hj hl) hg hs hd
  exact ⟨T', h', X', e', W, F0.set W, st⟩
theorem own_ldC (X : Stand p l e R s m args below meth c T locs cells slots) (hx : p.tables.exec = Jvm.exec) (hZ : Z.Warmed39 s.vm) (eT : T.heap = h) (F : own_Ar Z h a k .char vs) {j : Int32} (hj : ¬ j < 0) (hv : vs[j.toNatClampNeg]? = some v) {g : JFrame} (hg : g.method = m) {rest : List Value} (hs : g.stack = .int j :: .ref a :: rest) (hd : decode c.code g.pc = .ok (.caload, 1)) :
    ∀ t, Steps p.tables e below (T.setTop { g with pc := g.pc + 1, stack := v :: rest }) t → Steps p.tables e below (T.setTop g) t := fun t q => by
  obtain ⟨cl, A, -, hs'⟩ := F
  exact X.caload hx (by rw [eT]; exact A.1) (State.isArrayOf_alike hZ.alike A.2.1) A.2.2 (own_in hs' hj (own_lt_of hv)) (own_get hs' hv) hg hs hd t q
theorem own_stC (X : Stand p l e R s m args below meth c T locs cells slots) (hx : p.tables.exec = Jvm.exec) (hZ : Z.Warmed39 s.vm) (eT : T.heap = h) (F : own_Ar Z h a k .char vs) {j x : Int32} (hj : ¬ j < 0) (hl : j.toNatClampNeg < vs.length) {g : JFrame} (hg : g.method = m) {rest : List Value} (hs : g.stack = .int x :: .int j :: .ref a :: rest) (hd : decode c.code g.pc = .ok (.castore, 1)) :
    ∃ T' h', Stand p l e R s m args below meth c T' (locs ++ [⟨a, j.toNatClampNeg⟩]) cells slots ∧ T'.heap = h' ∧ Wr h h' a j.toNatClampNeg (.int (nar .char x)) ∧ own_Ar Z h' a k .char (vs.set j.toNatClampNeg (.int (nar .char x))) ∧ ∀ t, Steps p.tables e below (T'.setTop { g with pc := g.pc + 1, stack := rest }) t → Steps p.tables e below (T.setTop g) t := by
  have F0 := F
  obtain ⟨cl, A, -, hs'⟩ := F
  obtain ⟨T', h', X', e', W, st⟩ := stC X hx hZ eT A (own_in hs' hj hl) hg hs hd
  exact ⟨T', h', X', e', W, F0.set W, st⟩
theorem own_stB (X : Stand p l e R s m args below meth c T locs cells slots) (hx : p.tables.exec = Jvm.exec) (hZ : Z.Warmed39 s.vm) (eT : T.heap = h) (F : own_Ar Z h a k .byte vs) {j x : Int32} (hj : ¬ j < 0) (hl : j.toNatClampNeg < vs.length) {g : JFrame} (hg : g.method = m) {rest : List Value} (hs : g.stack = .int x :: .int j :: .ref a :: rest) (hd : decode c.code g.pc = .ok (.bastore, 1)) :
    ∃ T' h', Stand p l e R s m args below meth c T' (locs ++ [⟨a, j.toNatClampNeg⟩]) cells slots ∧ T'.heap = h' ∧ Wr h h' a j.toNatClampNeg (.int (nar .byte x)) ∧ own_Ar Z h' a k .byte (vs.set j.toNatClampNeg (.int (nar .byte x))) ∧ ∀ t, Steps p.tables e below (T'.setTop { g with pc := g.pc + 1, stack := rest }) t → Steps p.tables e below (T.setTop g) t := by
  have F0 := F
  obtain ⟨cl, A, -, hs'⟩ := F
  obtain ⟨T', h', X', e', W, st⟩ := stB X hx hZ eT A (own_in hs' hj hl) hg hs hd
  exact ⟨T', h', X', e', W, F0.set W, st⟩
theorem own_stR {C : String} {y : Addr} (X : Stand p l e R s m args below meth c T locs cells slots) (hx : p.tables.exec = Jvm.exec) (hZ : Z.Warmed39 s.vm) (eT : T.heap = h) (F : own_Ar Z h a k (.object C) vs) (O : Ovr Z k C) (I : Ins Z h y C true) {j : Int32} (hj : ¬ j < 0) (hl : j.toNatClampNeg < vs.length) {g : JFrame} (hg : g.method = m) {rest : List Value} (hs : g.stack = .ref y :: .int j :: .ref a :: rest) (hd : decode c.code g.pc = .ok (.aastore, 1)) :
    ∃ T' h', Stand p l e R s m args below meth c T' (locs ++ [⟨a, j.toNatClampNeg⟩]) cells slots ∧ T'.heap = h' ∧ Wr h h' a j.toNatClampNeg (.ref y) ∧ own_Ar Z h' a k (.object C) (vs.set j.toNatClampNeg (.ref y)) ∧ ∀ t, Steps p.tables e below (T'.setTop { g with pc := g.pc + 1, stack := rest }) t → Steps p.tables e below (T.setTop g) t := by
  have F0 := F
  obtain ⟨cl, A, hk, hs'⟩ := F
  obtain ⟨T', h', X', e', W, st⟩ := stR X hx hZ eT A (own_in hs' hj hl) rfl (Sto.ofV A hk O I) hg hs hd
  exact ⟨T', h', X', e', W, F0.set W, st⟩
theorem own_ar_plain (F : own_Ar Z h a k ty vs) : ∀ cell : Cell, h[a]? = some cell → cell.vm.isStatics = false := fun cell hc => by
  obtain ⟨c1, A, -⟩ := F
  cases A.1.symm.trans hc
  exact A.plain
end OwnArr
theorem own_selP {s : State} {args : Array Value} {y : MethodName} {n : Nat} (wi : (Cond.instantiable y.cls n).before args s = true) (hp : s.PrivateAt y) (hi : (Cond.instanceMethod y).before args s = true) (hy : y.cls ≠ "java/lang/invoke/MethodHandle" ∧ y.cls ≠ "java/lang/invoke/VarHandle") : (Cond.selects y.cls y y).before args s = true := by
  obtain ⟨c, k, h1, h2, -, h4, -⟩ := Cond.instantiable_spec wi
  have hk : k.isInterface = false := by
    cases q : k.isInterface with
    | false => rfl
    | true => rw [q] at h4; cases h4
  exact selects_self_of_private h1 h2 hk hp hi hy
theorem own_dup2x1 {tb : Tables} [Ours tb] {e : Env} {below : List Frame} {T target : State} {m : MethodId} {c : Code} {g : JFrame} (h : At T m c below) (hx : tb.exec = Jvm.exec) (hg : g.method = m) {x : Int64} {y : Value} {rest : List Value} (hd : decode c.code g.pc = .ok (.dup2_x1, 1)) (hs : g.stack = .long x :: y :: rest) (hc : y.category = 1)
    (hr : Steps tb e below (T.setTop { g with pc := g.pc + 1, stack := .long x :: y :: .long x :: rest }) target) : Steps tb e below (T.setTop g) target := by
  subst hg
  jvm_step h [h.top, hx, hd, hs, hc, dup2_x1.wp_sem, Value.category]
  exact ⟨hc, hr⟩
theorem own_set_at {L : List Value} {i : Nat} {v : Value} (h : i < L.length) : (L.set i v)[i]? = some v := by rw [List.getElem?_set_self h]
theorem own_set_ne {L : List Value} {i j : Nat} {v w : Value} (hn : i ≠ j) (h : L[j]? = some w) : (L.set i v)[j]? = some w := by rw [List.getElem?_set_ne hn]; exact h
theorem own_nlt {x y a b : Int64} (h : y < x ∨ (y = x ∧ a < b)) : ¬ x < y := by
  simp only [Int64.lt_iff_toInt_lt, ← Int64.toInt_inj] at *
  omega
theorem own_lt {x y a b : Int64} (hab : a < b) (h : ¬ (y < x ∨ (y = x ∧ a < b))) : x < y := by
  simp only [Int64.lt_iff_toInt_lt, ← Int64.toInt_inj] at *
  omega
theorem own_m3 (x i : Int32) (h : i = (x &&& (2147483647 : Int32)) % (3 : Int32)) : i = 0 ∨ i = 1 ∨ i = 2 := by
  have hm := c_mask x 2147483647 31 (by decide) (by decide)
  have hi : i.toInt = ((x &&& (2147483647 : Int32)).toInt).tmod 3 := by rw [h, Int32.toInt_mod]; rfl
  have e0 : (0 : Int32).toInt = 0 := rfl
  have e1 : (1 : Int32).toInt = 1 := rfl
  have e2 : (2 : Int32).toInt = 2 := rfl
  simp only [← Int32.toInt_inj]
  rw [Int.tmod_eq_emod_of_nonneg (by omega)] at hi
  omega
abbrev own_y0 : MethodName := ⟨"java/util/Arrays", "fill", "([II)V"⟩
abbrev own_y1 : MethodName := ⟨"com/example/stickler/stickler/assignment/NodeQueue", "<init>", "([J)V"⟩
abbrev own_y2 : MethodName := ⟨"com/example/stickler/stickler/assignment/NodeQueue", "isEmpty", "()Z"⟩
abbrev own_y3 : MethodName := ⟨"com/example/stickler/stickler/assignment/NodeQueue", "moveTo", "(II)V"⟩
abbrev own_y4 : MethodName := ⟨"com/example/stickler/stickler/assignment/NodeQueue", "before", "(II)Z"⟩
abbrev own_y5 : MethodName := ⟨"com/example/stickler/stickler/assignment/NodeQueue", "siftUp", "(I)V"⟩
abbrev own_y6 : MethodName := ⟨"com/example/stickler/stickler/assignment/NodeQueue", "offer", "(I)V"⟩
abbrev own_y7 : MethodName := ⟨"com/example/stickler/stickler/assignment/NodeQueue", "clear", "()V"⟩
abbrev own_y8 : MethodName := ⟨"com/example/stickler/stickler/assignment/NodeQueue", "siftDown", "(I)V"⟩
abbrev own_y9 : MethodName := ⟨"com/example/stickler/stickler/assignment/NodeQueue", "poll", "()I"⟩
theorem d3_0 : decode jdk_65_method_103_code 0 = .ok (.iconst 0, 1) := by decide +kernel
theorem d3_1 : decode jdk_65_method_103_code 1 = .ok (.istore_n 2, 1) := by decide +kernel
theorem d3_2 : decode jdk_65_method_103_code 2 = .ok (.aload_n 0, 1) := by decide +kernel
theorem d3_3 : decode jdk_65_method_103_code 3 = .ok (.arraylength, 1) := by decide +kernel
theorem d3_4 : decode jdk_65_method_103_code 4 = .ok (.istore_n 3, 1) := by decide +kernel
theorem d3_5 : decode jdk_65_method_103_code 5 = .ok (.iload_n 2, 1) := by decide +kernel
theorem d3_6 : decode jdk_65_method_103_code 6 = .ok (.iload_n 3, 1) := by decide +kernel
theorem d3_7 : decode jdk_65_method_103_code 7 = .ok (.if_icmp .ge 13, 3) := by decide +kernel
theorem d3_10 : decode jdk_65_method_103_code 10 = .ok (.aload_n 0, 1) := by decide +kernel
theorem d3_11 : decode jdk_65_method_103_code 11 = .ok (.iload_n 2, 1) := by decide +kernel
theorem d3_12 : decode jdk_65_method_103_code 12 = .ok (.iload_n 1, 1) := by decide +kernel
theorem d3_13 : decode jdk_65_method_103_code 13 = .ok (.iastore, 1) := by decide +kernel
theorem d3_14 : decode jdk_65_method_103_code 14 = .ok (.iinc 2 1, 3) := by decide +kernel
theorem d3_17 : decode jdk_65_method_103_code 17 = .ok (.goto (-12), 3) := by decide +kernel
theorem d3_20 : decode jdk_65_method_103_code 20 = .ok (.return_, 1) := by decide +kernel
theorem own_pf_fl : plainFor own_y0 = true := by first | exact plainFor_of_name (show plainName "java/util/Arrays" = true by first | (simp [plainName, overriddenIn]; done) | decide +kernel) | decide +kernel
theorem own_ef_fl (m : MethodId) (y0 : Addr) (y1 : Int32) : entryFrame m #[(.ref y0), (.int y1)] 4 = mkF m 0 #[rv y0, iv y1, .unset, .unset] [] := by first | (simp [entryFrame, mkF, argsToLocals, Value.category]; done) | rfl
def own_Qfl (Z : State) (pa : Addr) (kp : ClassId) (h0 : Heap) (n0 : Nat) (v : Option Value) (h : Heap) (L : List Loc) : Prop := v = none ∧ Fr n0 L ∧ Keep h0 h [pa] ∧ own_Ar Z h pa kp .int [(.int (-1 : Int32)), (.int (-1 : Int32)), (.int (-1 : Int32))]
set_option maxRecDepth 65536 in
set_option maxHeartbeats 40000000 in
theorem own_rmfl (l : Launch) (Z : State) (a0 : Array Value) (hw : ∀ d ∈ tables_1, d.before a0 Z = true) (ws : List Jvm.Cond) (pa : Addr) (kp : ClassId) (h0 : Heap) (n0 : Nat) (Z0 : n0 ≤ h0.size) (P0 : own_Ar Z h0 pa kp .int [(.int (0 : Int32)), (.int (0 : Int32)), (.int (0 : Int32))]) (G_pa : n0 ≤ pa) :
    MetFree l own_y0 (head1 (Jvm.Cond.code own_y0 jdk_65_method_103_code 4 none :: ws) ({ frames := 0, cells := 0, slots := 0, locals := 0 } : Room)) (fun az Uz => az = #[(.ref pa), (.int (-1))] ∧ Z.Warmed39 Uz.vm ∧ Uz.heap = h0) (fun _ _ _ _ _ => True) (fun _ U o U' => ∃ v L, o = .returned v ∧ own_Qfl Z pa kp h0 n0 v U'.heap L ∧ FrameEnd U o U' L ({ frames := 0, cells := 0, slots := 0, locals := 0 } : Room).cells ({ frames := 0, cells := 0, slots := 0, locals := 0 } : Room).slots) := by
  refine MetFree.of_bodySF own_pf_fl hisR ?_
  intro p e s m args below meth c s₁ Bd hml0 hP hK
  obtain ⟨rfl, hZ, hh⟩ := hP
  have hx := Bd.exec
  have hby := Bd.bytes
  have hml : c.maxLocals = 4 := hml0
  have hown : s.vm.findClass "java/util/Arrays" = some m.cls := findClass_of_methodNamed Bd.named
  have hnm := (name_of_methodNamed Bd.named Bd.method).1
  have hlk : meth.locks = false := BodyLoose.notSynchronized Bd
  have hret := Bd.returns
  have X0 : Stand p l e ({ frames := 0, cells := 0, slots := 0, locals := 0 } : Room) s m #[(.ref pa), (.int (-1))] below meth c s₁ [] 0 0 := Stand.of_body Bd
  have e0 : s₁.heap = h0 := by rw [← hh, Bd.state]; rfl
  have N0 := Fr.nil n0
  show own_E p e below (own_K s (own_Qfl Z pa kp h0 n0) ({ frames := 0, cells := 0, slots := 0, locals := 0 } : Room).cells ({ frames := 0, cells := 0, slots := 0, locals := 0 } : Room).slots) s₁ (entryFrame m #[(.ref pa), (.int (-1))] 4)
  refine own_S (mkF m 0 #[rv pa, .val (.int (-1)), .unset, .unset] []) (fun _ k => castTop (own_ef_fl m (pa) ((-1 : Int32))) k) ?_
  refine own_S (mkF m 1 #[rv pa, .val (.int (-1)), .unset, .unset] [(.int 0)]) (fun _ k => XS.iconst X0.here hx rfl (hb hby d3_0) k) ?_
  refine own_S (mkF m 2 #[rv pa, .val (.int (-1)), .val (.int 0), .unset] []) (fun _ k => XS.istoreN X0.here hx rfl (hb hby d3_1) rfl (l' := #[rv pa, .val (.int (-1)), .val (.int 0), .unset]) rfl k) ?_
  refine own_S (mkF m 3 #[rv pa, .val (.int (-1)), .val (.int 0), .unset] [(.ref pa)]) (fun _ k => XS.aloadN X0.here hx rfl (hb hby d3_2) rfl rfl k) ?_
  refine own_S (mkF m 4 #[rv pa, .val (.int (-1)), .val (.int 0), .unset] [(.int 3)]) (fun _ k => own_alen X0 hx hZ e0 P0 (g := (mkF m 3 #[rv pa, .val (.int (-1)), .val (.int 0), .unset] [(.ref pa)])) rfl rfl (hb hby d3_3) _ k) ?_
  refine own_S (mkF m 5 #[rv pa, .val (.int (-1)), .val (.int 0), .val (.int 3)] []) (fun _ k => XS.istoreN X0.here hx rfl (hb hby d3_4) rfl (l' := #[rv pa, .val (.int (-1)), .val (.int 0), .val (.int 3)]) rfl k) ?_
  refine own_S (mkF m 6 #[rv pa, .val (.int (-1)), .val (.int 0), .val (.int 3)] [(.int 0)]) (fun _ k => XS.iloadN X0.here hx rfl (hb hby d3_5) rfl k) ?_
  refine own_S (mkF m 7 #[rv pa, .val (.int (-1)), .val (.int 0), .val (.int 3)] [(.int 3), (.int 0)]) (fun _ k => XS.iloadN X0.here hx rfl (hb hby d3_6) rfl k) ?_
  have hc1 : (0 : Int32) < (3 : Int32) := by decide
  refine own_S (mkF m 10 #[rv pa, .val (.int (-1)), .val (.int 0), .val (.int 3)] []) (fun _ k => XS.icmpNo X0.here hx rfl (hb hby d3_7) rfl (tlt hc1).2.1 k) ?_
  refine own_S (mkF m 11 #[rv pa, .val (.int (-1)), .val (.int 0), .val (.int 3)] [(.ref pa)]) (fun _ k => XS.aloadN X0.here hx rfl (hb hby d3_10) rfl rfl k) ?_
  refine own_S (mkF m 12 #[rv pa, .val (.int (-1)), .val (.int 0), .val (.int 3)] [(.int 0), (.ref pa)]) (fun _ k => XS.iloadN X0.here hx rfl (hb hby d3_11) rfl k) ?_
  refine own_S (mkF m 13 #[rv pa, .val (.int (-1)), .val (.int 0), .val (.int 3)] [(.int (-1)), (.int 0), (.ref pa)]) (fun _ k => XS.iloadN X0.here hx rfl (hb hby d3_12) rfl k) ?_
  obtain ⟨T2, h2, X2, e2, W2, AR2, st2⟩ := own_stI (j := (0 : Int32)) X0 hx hZ e0 P0 (by decide) (show (0 : Nat) < 3 from by decide) (g := (mkF m 13 #[rv pa, .val (.int (-1)), .val (.int 0), .val (.int 3)] [(.int (-1)), (.int 0), (.ref pa)])) rfl rfl (hb hby d3_13)
  refine own_S (mkF m 14 #[rv pa, .val (.int (-1)), .val (.int 0), .val (.int 3)] []) st2 ?_
  have F3 : own_Ar Z h2 pa kp .int [(.int (-1)), (.int (0 : Int32)), (.int (0 : Int32))] := AR2
  have N2 := Fr.snoc X2 N0 G_pa
  have Z2 : n0 ≤ h2.size := by rw [Wr.size W2]; exact Z0
  have K2 : Keep h0 h2 [pa] := (Keep.refl _ _).wr W2 (Or.inl (List.mem_of_getElem? (i := 0) rfl))
  refine own_S (mkF m 17 #[rv pa, .val (.int (-1)), .val (.int 1), .val (.int 3)] []) (fun _ k => XS.iinc X2.here hx rfl (hb hby d3_14) rfl (l' := #[rv pa, .val (.int (-1)), .val (.int 1), .val (.int 3)]) rfl k) ?_
  refine own_S (mkF m 5 #[rv pa, .val (.int (-1)), .val (.int 1), .val (.int 3)] []) (fun _ k => XS.goto X2.here hx rfl (pc0 := 17) (pc' := 5) rfl (hb hby d3_17) (by decide) (by decide) k) ?_
  refine own_S (mkF m 6 #[rv pa, .val (.int (-1)), .val (.int 1), .val (.int 3)] [(.int 1)]) (fun _ k => XS.iloadN X2.here hx rfl (hb hby d3_5) rfl k) ?_
  refine own_S (mkF m 7 #[rv pa, .val (.int (-1)), .val (.int 1), .val (.int 3)] [(.int 3), (.int 1)]) (fun _ k => XS.iloadN X2.here hx rfl (hb hby d3_6) rfl k) ?_
  have hc4 : (1 : Int32) < (3 : Int32) := by decide
  refine own_S (mkF m 10 #[rv pa, .val (.int (-1)), .val (.int 1), .val (.int 3)] []) (fun _ k => XS.icmpNo X2.here hx rfl (hb hby d3_7) rfl (tlt hc4).2.1 k) ?_
  refine own_S (mkF m 11 #[rv pa, .val (.int (-1)), .val (.int 1), .val (.int 3)] [(.ref pa)]) (fun _ k => XS.aloadN X2.here hx rfl (hb hby d3_10) rfl rfl k) ?_
  refine own_S (mkF m 12 #[rv pa, .val (.int (-1)), .val (.int 1), .val (.int 3)] [(.int 1), (.ref pa)]) (fun _ k => XS.iloadN X2.here hx rfl (hb hby d3_11) rfl k) ?_
  refine own_S (mkF m 13 #[rv pa, .val (.int (-1)), .val (.int 1), .val (.int 3)] [(.int (-1)), (.int 1), (.ref pa)]) (fun _ k => XS.iloadN X2.here hx rfl (hb hby d3_12) rfl k) ?_
  obtain ⟨T5, h5, X5, e5, W5, AR5, st5⟩ := own_stI (j := (1 : Int32)) X2 hx hZ e2 F3 (by decide) (show (1 : Nat) < 3 from by decide) (g := (mkF m 13 #[rv pa, .val (.int (-1)), .val (.int 1), .val (.int 3)] [(.int (-1)), (.int 1), (.ref pa)])) rfl rfl (hb hby d3_13)
  refine own_S (mkF m 14 #[rv pa, .val (.int (-1)), .val (.int 1), .val (.int 3)] []) st5 ?_
  have F6 : own_Ar Z h5 pa kp .int [(.int (-1)), (.int (-1)), (.int (0 : Int32))] := AR5
  have N5 := Fr.snoc X5 N2 G_pa
  have Z5 : n0 ≤ h5.size := by rw [Wr.size W5]; exact Z2
  have K5 : Keep h0 h5 [pa] := K2.wr W5 (Or.inl (List.mem_of_getElem? (i := 0) rfl))
  refine own_S (mkF m 17 #[rv pa, .val (.int (-1)), .val (.int 2), .val (.int 3)] []) (fun _ k => XS.iinc X5.here hx rfl (hb hby d3_14) rfl (l' := #[rv pa, .val (.int (-1)), .val (.int 2), .val (.int 3)]) rfl k) ?_
  refine own_S (mkF m 5 #[rv pa, .val (.int (-1)), .val (.int 2), .val (.int 3)] []) (fun _ k => XS.goto X5.here hx rfl (pc0 := 17) (pc' := 5) rfl (hb hby d3_17) (by decide) (by decide) k) ?_
  refine own_S (mkF m 6 #[rv pa, .val (.int (-1)), .val (.int 2), .val (.int 3)] [(.int 2)]) (fun _ k => XS.iloadN X5.here hx rfl (hb hby d3_5) rfl k) ?_
  refine own_S (mkF m 7 #[rv pa, .val (.int (-1)), .val (.int 2), .val (.int 3)] [(.int 3), (.int 2)]) (fun _ k => XS.iloadN X5.here hx rfl (hb hby d3_6) rfl k) ?_
  have hc7 : (2 : Int32) < (3 : Int32) := by decide
  refine own_S (mkF m 10 #[rv pa, .val (.int (-1)), .val (.int 2), .val (.int 3)] []) (fun _ k => XS.icmpNo X5.here hx rfl (hb hby d3_7) rfl (tlt hc7).2.1 k) ?_
  refine own_S (mkF m 11 #[rv pa, .val (.int (-1)), .val (.int 2), .val (.int 3)] [(.ref pa)]) (fun _ k => XS.aloadN X5.here hx rfl (hb hby d3_10) rfl rfl k) ?_
  refine own_S (mkF m 12 #[rv pa, .val (.int (-1)), .val (.int 2), .val (.int 3)] [(.int 2), (.ref pa)]) (fun _ k => XS.iloadN X5.here hx rfl (hb hby d3_11) rfl k) ?_
  refine own_S (mkF m 13 #[rv pa, .val (.int (-1)), .val (.int 2), .val (.int 3)] [(.int (-1)), (.int 2), (.ref pa)]) (fun _ k => XS.iloadN X5.here hx rfl (hb hby d3_12) rfl k) ?_
  obtain ⟨T8, h8, X8, e8, W8, AR8, st8⟩ := own_stI (j := (2 : Int32)) X5 hx hZ e5 F6 (by decide) (show (2 : Nat) < 3 from by decide) (g := (mkF m 13 #[rv pa, .val (.int (-1)), .val (.int 2), .val (.int 3)] [(.int (-1)), (.int 2), (.ref pa)])) rfl rfl (hb hby d3_13)
  refine own_S (mkF m 14 #[rv pa, .val (.int (-1)), .val (.int 2), .val (.int 3)] []) st8 ?_
  have F9 : own_Ar Z h8 pa kp .int [(.int (-1)), (.int (-1)), (.int (-1))] := AR8
  have N8 := Fr.snoc X8 N5 G_pa
  have Z8 : n0 ≤ h8.size := by rw [Wr.size W8]; exact Z5
  have K8 : Keep h0 h8 [pa] := K5.wr W8 (Or.inl (List.mem_of_getElem? (i := 0) rfl))
  refine own_S (mkF m 17 #[rv pa, .val (.int (-1)), .val (.int 3), .val (.int 3)] []) (fun _ k => XS.iinc X8.here hx rfl (hb hby d3_14) rfl (l' := #[rv pa, .val (.int (-1)), .val (.int 3), .val (.int 3)]) rfl k) ?_
  refine own_S (mkF m 5 #[rv pa, .val (.int (-1)), .val (.int 3), .val (.int 3)] []) (fun _ k => XS.goto X8.here hx rfl (pc0 := 17) (pc' := 5) rfl (hb hby d3_17) (by decide) (by decide) k) ?_
  refine own_S (mkF m 6 #[rv pa, .val (.int (-1)), .val (.int 3), .val (.int 3)] [(.int 3)]) (fun _ k => XS.iloadN X8.here hx rfl (hb hby d3_5) rfl k) ?_
  refine own_S (mkF m 7 #[rv pa, .val (.int (-1)), .val (.int 3), .val (.int 3)] [(.int 3), (.int 3)]) (fun _ k => XS.iloadN X8.here hx rfl (hb hby d3_6) rfl k) ?_
  have hc10 : ¬ ((3 : Int32) < (3 : Int32)) := by decide
  refine own_S (mkF m 20 #[rv pa, .val (.int (-1)), .val (.int 3), .val (.int 3)] []) (fun _ k => XS.icmpYes X8.here hx rfl (pc0 := 7) (pc' := 20) rfl (hb hby d3_7) rfl (flt hc10).2.1 (by decide) (by decide) k) ?_
  exact own_ret0 X8 hx hlk hret (hb hby d3_20) (by rw [e8]; exact ⟨rfl, N8, K8, F9⟩) (by decide) (by decide)
theorem d1_0 : decode prog_8_method_1_code 0 = .ok (.aload_n 0, 1) := by decide +kernel
theorem d1_1 : decode prog_8_method_1_code 1 = .ok (.invokespecial 1, 3) := by decide +kernel
theorem d1_4 : decode prog_8_method_1_code 4 = .ok (.aload_n 0, 1) := by decide +kernel
theorem d1_5 : decode prog_8_method_1_code 5 = .ok (.aload_n 1, 1) := by decide +kernel
theorem d1_6 : decode prog_8_method_1_code 6 = .ok (.putfield 7, 3) := by decide +kernel
theorem d1_9 : decode prog_8_method_1_code 9 = .ok (.aload_n 0, 1) := by decide +kernel
theorem d1_10 : decode prog_8_method_1_code 10 = .ok (.aload_n 1, 1) := by decide +kernel
theorem d1_11 : decode prog_8_method_1_code 11 = .ok (.arraylength, 1) := by decide +kernel
theorem d1_12 : decode prog_8_method_1_code 12 = .ok (.newarray .int, 2) := by decide +kernel
theorem d1_14 : decode prog_8_method_1_code 14 = .ok (.putfield 13, 3) := by decide +kernel
theorem d1_17 : decode prog_8_method_1_code 17 = .ok (.aload_n 0, 1) := by decide +kernel
theorem d1_18 : decode prog_8_method_1_code 18 = .ok (.aload_n 1, 1) := by decide +kernel
theorem d1_19 : decode prog_8_method_1_code 19 = .ok (.arraylength, 1) := by decide +kernel
theorem d1_20 : decode prog_8_method_1_code 20 = .ok (.newarray .int, 2) := by decide +kernel
theorem d1_22 : decode prog_8_method_1_code 22 = .ok (.putfield 17, 3) := by decide +kernel
theorem d1_25 : decode prog_8_method_1_code 25 = .ok (.aload_n 0, 1) := by decide +kernel
theorem d1_26 : decode prog_8_method_1_code 26 = .ok (.aload_n 1, 1) := by decide +kernel
theorem d1_27 : decode prog_8_method_1_code 27 = .ok (.arraylength, 1) := by decide +kernel
theorem d1_28 : decode prog_8_method_1_code 28 = .ok (.newarray .long, 2) := by decide +kernel
theorem d1_30 : decode prog_8_method_1_code 30 = .ok (.putfield 20, 3) := by decide +kernel
theorem d1_33 : decode prog_8_method_1_code 33 = .ok (.aload_n 0, 1) := by decide +kernel
theorem d1_34 : decode prog_8_method_1_code 34 = .ok (.getfield 17, 3) := by decide +kernel
theorem d1_37 : decode prog_8_method_1_code 37 = .ok (.iconst (-1), 1) := by decide +kernel
theorem d1_38 : decode prog_8_method_1_code 38 = .ok (.invokestatic 23, 3) := by decide +kernel
theorem d1_41 : decode prog_8_method_1_code 41 = .ok (.return_, 1) := by decide +kernel
theorem own_pd___II_V : parseMethodDescriptor "([II)V" = some ⟨[(.array .int), .int], none⟩ := by decide +kernel
theorem own_pf_ini : plainFor own_y1 = true := by first | exact plainFor_of_name (show plainName "com/example/stickler/stickler/assignment/NodeQueue" = true by first | (simp [plainName, overriddenIn]; done) | decide +kernel) | decide +kernel
theorem own_ef_ini (m : MethodId) (y0 : Addr) (y1 : Addr) : entryFrame m #[(.ref y0), (.ref y1)] 2 = mkF m 0 #[rv y0, rv y1] [] := by first | (simp [entryFrame, mkF, argsToLocals, Value.category]; done) | rfl
def own_Qini (Z : State) (a : Addr) (da : Addr) (kd : ClassId) (d0 : Int64) (d1 : Int64) (d2 : Int64) (h0 : Heap) (n0 : Nat) (v : Option Value) (h : Heap) (L : List Loc) : Prop := ∃ (ha : Addr) (pa : Addr) (oa : Addr) (kh : ClassId) (kp : ClassId) (ko : ClassId), v = none ∧ Fr n0 L ∧ Keep h0 h [a] ∧ Exa Z h a "com/example/stickler/stickler/assignment/NodeQueue" ∧ Fld Z h a "com/example/stickler/stickler/assignment/NodeQueue" "distance" "[J" (.ref da) ∧ Fld Z h a "com/example/stickler/stickler/assignment/NodeQueue" "heap" "[I" (.ref ha) ∧ Fld Z h a "com/example/stickler/stickler/assignment/NodeQueue" "place" "[I" (.ref pa) ∧ Fld Z h a "com/example/stickler/stickler/assignment/NodeQueue" "offered" "[J" (.ref oa) ∧ Fld Z h a "com/example/stickler/stickler/assignment/NodeQueue" "size" "I" (.int (0 : Int32)) ∧ Fld Z h a "com/example/stickler/stickler/assignment/NodeQueue" "offers" "J" (.long (0 : Int64)) ∧ own_Ar Z h ha kh .int [(.int (0 : Int32)), (.int (0 : Int32)), (.int (0 : Int32))] ∧ own_Ar Z h pa kp .int [(.int (-1 : Int32)), (.int (-1 : Int32)), (.int (-1 : Int32))] ∧ own_Ar Z h oa ko .long [(.long (0 : Int64)), (.long (0 : Int64)), (.long (0 : Int64))] ∧ h0.size ≤ ha ∧ h0.size ≤ pa ∧ h0.size ≤ oa ∧ ha ≠ pa ∧ ha ≠ oa ∧ pa ≠ oa
set_option maxRecDepth 65536 in
set_option maxHeartbeats 40000000 in
theorem own_rmini (l : Launch) (Z : State) (a0 : Array Value) (hw : ∀ d ∈ tables_1, d.before a0 Z = true) (ws : List Jvm.Cond) (a : Addr) (da : Addr) (kd : ClassId) (d0 : Int64) (d1 : Int64) (d2 : Int64) (h0 : Heap) (n0 : Nat) (Z0 : n0 ≤ h0.size) (P0 : Exa Z h0 a "com/example/stickler/stickler/assignment/NodeQueue") (P1 : Fld Z h0 a "com/example/stickler/stickler/assignment/NodeQueue" "distance" "[J" .null) (P2 : Fld Z h0 a "com/example/stickler/stickler/assignment/NodeQueue" "heap" "[I" .null) (P3 : Fld Z h0 a "com/example/stickler/stickler/assignment/NodeQueue" "place" "[I" .null) (P4 : Fld Z h0 a "com/example/stickler/stickler/assignment/NodeQueue" "offered" "[J" .null) (P5 : Fld Z h0 a "com/example/stickler/stickler/assignment/NodeQueue" "size" "I" (.int (0 : Int32))) (P6 : Fld Z h0 a "com/example/stickler/stickler/assignment/NodeQueue" "offers" "J" (.long (0 : Int64))) (P7 : own_Ar Z h0 da kd .long [(.long d0), (.long d1), (.long d2)]) (G_a : n0 ≤ a) (NE_a_da : a ≠ da) :
    MetFree l own_y1 (head1 (Jvm.Cond.code own_y1 prog_8_method_1_code 2 none :: ws) ({ frames := 1, cells := 3, slots := 9, locals := 15 } : Room)) (fun az Uz => az = #[(.ref a), (.ref da)] ∧ Z.Warmed39 Uz.vm ∧ Uz.heap = h0) (fun _ _ _ _ _ => True) (fun _ U o U' => ∃ v L, o = .returned v ∧ own_Qini Z a da kd d0 d1 d2 h0 n0 v U'.heap L ∧ FrameEnd U o U' L ({ frames := 1, cells := 3, slots := 9, locals := 15 } : Room).cells ({ frames := 1, cells := 3, slots := 9, locals := 15 } : Room).slots) := by
  refine MetFree.of_bodySF own_pf_ini hisR ?_
  intro p e s m args below meth c s₁ Bd hml0 hP hK
  obtain ⟨rfl, hZ, hh⟩ := hP
  have hx := Bd.exec
  have hby := Bd.bytes
  have hml : c.maxLocals = 2 := hml0
  have hown : s.vm.findClass "com/example/stickler/stickler/assignment/NodeQueue" = some m.cls := findClass_of_methodNamed Bd.named
  have hnm := (name_of_methodNamed Bd.named Bd.method).1
  have hlk : meth.locks = false := BodyLoose.notSynchronized Bd
  have hret := Bd.returns
  have X0 : Stand p l e ({ frames := 1, cells := 3, slots := 9, locals := 15 } : Room) s m #[(.ref a), (.ref da)] below meth c s₁ [] 0 0 := Stand.of_body Bd
  have e0 : s₁.heap = h0 := by rw [← hh, Bd.state]; rfl
  have N0 := Fr.nil n0
  show own_E p e below (own_K s (own_Qini Z a da kd d0 d1 d2 h0 n0) ({ frames := 1, cells := 3, slots := 9, locals := 15 } : Room).cells ({ frames := 1, cells := 3, slots := 9, locals := 15 } : Room).slots) s₁ (entryFrame m #[(.ref a), (.ref da)] 2)
  refine own_S (mkF m 0 #[rv a, rv da] []) (fun _ k => castTop (own_ef_ini m (a) (da)) k) ?_
  refine own_S (mkF m 1 #[rv a, rv da] [(.ref a)]) (fun _ k => XS.aloadN X0.here hx rfl (hb hby d1_0) rfl rfl k) ?_
  obtain ⟨T1, X1, e1, st1⟩ := initO X0 hx hZ hown (own_g hw (i := 7) rfl) (own_g hw (i := 8) rfl) (own_g hw (i := 9) rfl) e0 (g := (mkF m 1 #[rv a, rv da] [(.ref a)])) rfl (by rw [hml]; rfl) rfl (hb hby d1_1) (by decide) (W := 0) (by show 2 * 0 + _ ≤ _; exact Nat.le_of_eq rfl) (by decide)
  refine own_S (mkF m 4 #[rv a, rv da] []) st1 ?_
  refine own_S (mkF m 5 #[rv a, rv da] [(.ref a)]) (fun _ k => XS.aloadN X1.here hx rfl (hb hby d1_4) rfl rfl k) ?_
  refine own_S (mkF m 6 #[rv a, rv da] [(.ref da), (.ref a)]) (fun _ k => XS.aloadN X1.here hx rfl (hb hby d1_5) rfl rfl k) ?_
  obtain ⟨T2, h2, X2, e2, W2, st2⟩ := putF X1 hx hZ hown (host := "") (Or.inl (own_g hw (i := 10) rfl)) Via.refl e1 P1 P0 (Or.inr ⟨(own_g hw (i := 11) rfl), rfl, hnm⟩) (own_g hw (i := 2) rfl) (ty := (.array .long)) (by decide) rfl rfl (g := (mkF m 6 #[rv a, rv da] [(.ref da), (.ref a)])) rfl rfl (hb hby d1_6)
  refine own_S (mkF m 9 #[rv a, rv da] []) st2 ?_
  have F3 := P0.wr W2
  have F4 := P1.same W2
  have F5 := P2.other W2 (Or.inr (slot_ne (Or.inr (own_g hw (i := 14) rfl)) (Or.inr (own_g hw (i := 11) rfl)) (by decide) (t := (.array .int)) (t' := (.array .long)) (by decide) (by decide)))
  have F6 := P3.other W2 (Or.inr (slot_ne (Or.inr (own_g hw (i := 16) rfl)) (Or.inr (own_g hw (i := 11) rfl)) (by decide) (t := (.array .int)) (t' := (.array .long)) (by decide) (by decide)))
  have F7 := P4.other W2 (Or.inr (slot_ne (Or.inr (own_g hw (i := 18) rfl)) (Or.inr (own_g hw (i := 11) rfl)) (by decide) (t := (.array .long)) (t' := (.array .long)) (by decide) (by decide)))
  have F8 := P5.other W2 (Or.inr (slot_ne (Or.inl (own_g hw (i := 29) rfl)) (Or.inr (own_g hw (i := 11) rfl)) (by decide) (t := .int) (t' := (.array .long)) (by decide) (by decide)))
  have F9 := P6.other W2 (Or.inr (slot_ne (Or.inl (own_g hw (i := 42) rfl)) (Or.inr (own_g hw (i := 11) rfl)) (by decide) (t := .long) (t' := (.array .long)) (by decide) (by decide)))
  have F10 := P7.other W2 (Ne.symm NE_a_da)
  have N2 := Fr.snoc X2 N0 G_a
  have Z2 : n0 ≤ h2.size := by rw [Wr.size W2]; exact Z0
  have K2 : Keep h0 h2 [a] := (Keep.refl _ _).wr W2 (Or.inl (List.mem_of_getElem? (i := 0) rfl))
  refine own_S (mkF m 10 #[rv a, rv da] [(.ref a)]) (fun _ k => XS.aloadN X2.here hx rfl (hb hby d1_9) rfl rfl k) ?_
  refine own_S (mkF m 11 #[rv a, rv da] [(.ref da), (.ref a)]) (fun _ k => XS.aloadN X2.here hx rfl (hb hby d1_10) rfl rfl k) ?_
  refine own_S (mkF m 12 #[rv a, rv da] [(.int 3), (.ref a)]) (fun _ k => own_alen X2 hx hZ e2 F10 (g := (mkF m 11 #[rv a, rv da] [(.ref da), (.ref a)])) rfl rfl (hb hby d1_11) _ k) ?_
  obtain ⟨T11, h11, cA11, X11, e11, E11, A11, st11⟩ := newP X2 hx hZ (own_g hw (i := 12) rfl) e2 (g := (mkF m 12 #[rv a, rv da] [(.int 3), (.ref a)])) rfl (hb hby d1_12) rfl (by decide) (cap := 3) (by decide) (by decide) (by decide) (by decide)
  obtain ⟨ha, g11⟩ : ∃ z, z = h2.size := ⟨_, rfl⟩
  rw [← g11] at A11 st11
  have n12 : a ≠ ha := Nat.ne_of_lt (Nat.lt_of_lt_of_eq F3.lt g11.symm)
  have n13 : da ≠ ha := Nat.ne_of_lt (Nat.lt_of_lt_of_eq F10.lt g11.symm)
  have ge_ha : n0 ≤ ha := Nat.le_trans Z2 (Nat.le_of_eq g11.symm)
  have fr_ha : h0.size ≤ ha := Nat.le_trans K2.1 (Nat.le_of_eq g11.symm)
  have K11 : Keep h0 h11 [a] := K2.ext E11
  have F14 := F3.ext E11
  have F15 := F4.ext E11
  have F16 := F5.ext E11
  have F17 := F6.ext E11
  have F18 := F7.ext E11
  have F19 := F8.ext E11
  have F20 := F9.ext E11
  have F21 := F10.ext E11
  have Z11 : n0 ≤ h11.size := Nat.le_trans Z2 E11.1
  have F22 : own_Ar Z h11 ha cA11 .int [(.int (0 : Int32)), (.int (0 : Int32)), (.int (0 : Int32))] := own_Ar.new A11 rfl
  refine own_S (mkF m 14 #[rv a, rv da] [(.ref ha), (.ref a)]) st11 ?_
  obtain ⟨T23, h23, X23, e23, W23, st23⟩ := putF X11 hx hZ hown (host := "") (Or.inl (own_g hw (i := 13) rfl)) Via.refl e11 F16 F14 (Or.inr ⟨(own_g hw (i := 14) rfl), rfl, hnm⟩) (own_g hw (i := 2) rfl) (ty := (.array .int)) (by decide) rfl rfl (g := (mkF m 14 #[rv a, rv da] [(.ref ha), (.ref a)])) rfl rfl (hb hby d1_14)
  refine own_S (mkF m 17 #[rv a, rv da] []) st23 ?_
  have F24 := F14.wr W23
  have F25 := F15.other W23 (Or.inr (slot_ne (Or.inr (own_g hw (i := 11) rfl)) (Or.inr (own_g hw (i := 14) rfl)) (by decide) (t := (.array .long)) (t' := (.array .int)) (by decide) (by decide)))
  have F26 := F16.same W23
  have F27 := F17.other W23 (Or.inr (slot_ne (Or.inr (own_g hw (i := 16) rfl)) (Or.inr (own_g hw (i := 14) rfl)) (by decide) (t := (.array .int)) (t' := (.array .int)) (by decide) (by decide)))
  have F28 := F18.other W23 (Or.inr (slot_ne (Or.inr (own_g hw (i := 18) rfl)) (Or.inr (own_g hw (i := 14) rfl)) (by decide) (t := (.array .long)) (t' := (.array .int)) (by decide) (by decide)))
  have F29 := F19.other W23 (Or.inr (slot_ne (Or.inl (own_g hw (i := 29) rfl)) (Or.inr (own_g hw (i := 14) rfl)) (by decide) (t := .int) (t' := (.array .int)) (by decide) (by decide)))
  have F30 := F20.other W23 (Or.inr (slot_ne (Or.inl (own_g hw (i := 42) rfl)) (Or.inr (own_g hw (i := 14) rfl)) (by decide) (t := .long) (t' := (.array .int)) (by decide) (by decide)))
  have F31 := F21.other W23 (Ne.symm NE_a_da)
  have F32 := F22.other W23 (Ne.symm n12)
  have N23 := Fr.snoc X23 N2 G_a
  have Z23 : n0 ≤ h23.size := by rw [Wr.size W23]; exact Z11
  have K23 : Keep h0 h23 [a] := K11.wr W23 (Or.inl (List.mem_of_getElem? (i := 0) rfl))
  refine own_S (mkF m 18 #[rv a, rv da] [(.ref a)]) (fun _ k => XS.aloadN X23.here hx rfl (hb hby d1_17) rfl rfl k) ?_
  refine own_S (mkF m 19 #[rv a, rv da] [(.ref da), (.ref a)]) (fun _ k => XS.aloadN X23.here hx rfl (hb hby d1_18) rfl rfl k) ?_
  refine own_S (mkF m 20 #[rv a, rv da] [(.int 3), (.ref a)]) (fun _ k => own_alen X23 hx hZ e23 F31 (g := (mkF m 19 #[rv a, rv da] [(.ref da), (.ref a)])) rfl rfl (hb hby d1_19) _ k) ?_
  obtain ⟨T33, h33, cA33, X33, e33, E33, A33, st33⟩ := newP X23 hx hZ (own_g hw (i := 12) rfl) e23 (g := (mkF m 20 #[rv a, rv da] [(.int 3), (.ref a)])) rfl (hb hby d1_20) rfl (by decide) (cap := 3) (by decide) (by decide) (by decide) (by decide)
  obtain ⟨pa, g33⟩ : ∃ z, z = h23.size := ⟨_, rfl⟩
  rw [← g33] at A33 st33
  have n34 : a ≠ pa := Nat.ne_of_lt (Nat.lt_of_lt_of_eq F24.lt g33.symm)
  have n35 : da ≠ pa := Nat.ne_of_lt (Nat.lt_of_lt_of_eq F31.lt g33.symm)
  have n36 : ha ≠ pa := Nat.ne_of_lt (Nat.lt_of_lt_of_eq F32.lt g33.symm)
  have ge_pa : n0 ≤ pa := Nat.le_trans Z23 (Nat.le_of_eq g33.symm)
  have fr_pa : h0.size ≤ pa := Nat.le_trans K23.1 (Nat.le_of_eq g33.symm)
  have K33 : Keep h0 h33 [a] := K23.ext E33
  have F37 := F24.ext E33
  have F38 := F25.ext E33
  have F39 := F26.ext E33
  have F40 := F27.ext E33
  have F41 := F28.ext E33
  have F42 := F29.ext E33
  have F43 := F30.ext E33
  have F44 := F31.ext E33
  have F45 := F32.ext E33
  have Z33 : n0 ≤ h33.size := Nat.le_trans Z23 E33.1
  have F46 : own_Ar Z h33 pa cA33 .int [(.int (0 : Int32)), (.int (0 : Int32)), (.int (0 : Int32))] := own_Ar.new A33 rfl
  refine own_S (mkF m 22 #[rv a, rv da] [(.ref pa), (.ref a)]) st33 ?_
  obtain ⟨T47, h47, X47, e47, W47, st47⟩ := putF X33 hx hZ hown (host := "") (Or.inl (own_g hw (i := 15) rfl)) Via.refl e33 F40 F37 (Or.inr ⟨(own_g hw (i := 16) rfl), rfl, hnm⟩) (own_g hw (i := 2) rfl) (ty := (.array .int)) (by decide) rfl rfl (g := (mkF m 22 #[rv a, rv da] [(.ref pa), (.ref a)])) rfl rfl (hb hby d1_22)
  refine own_S (mkF m 25 #[rv a, rv da] []) st47 ?_
  have F48 := F37.wr W47
  have F49 := F38.other W47 (Or.inr (slot_ne (Or.inr (own_g hw (i := 11) rfl)) (Or.inr (own_g hw (i := 16) rfl)) (by decide) (t := (.array .long)) (t' := (.array .int)) (by decide) (by decide)))
  have F50 := F39.other W47 (Or.inr (slot_ne (Or.inr (own_g hw (i := 14) rfl)) (Or.inr (own_g hw (i := 16) rfl)) (by decide) (t := (.array .int)) (t' := (.array .int)) (by decide) (by decide)))
  have F51 := F40.same W47
  have F52 := F41.other W47 (Or.inr (slot_ne (Or.inr (own_g hw (i := 18) rfl)) (Or.inr (own_g hw (i := 16) rfl)) (by decide) (t := (.array .long)) (t' := (.array .int)) (by decide) (by decide)))
  have F53 := F42.other W47 (Or.inr (slot_ne (Or.inl (own_g hw (i := 29) rfl)) (Or.inr (own_g hw (i := 16) rfl)) (by decide) (t := .int) (t' := (.array .int)) (by decide) (by decide)))
  have F54 := F43.other W47 (Or.inr (slot_ne (Or.inl (own_g hw (i := 42) rfl)) (Or.inr (own_g hw (i := 16) rfl)) (by decide) (t := .long) (t' := (.array .int)) (by decide) (by decide)))
  have F55 := F44.other W47 (Ne.symm NE_a_da)
  have F56 := F45.other W47 (Ne.symm n12)
  have F57 := F46.other W47 (Ne.symm n34)
  have N47 := Fr.snoc X47 N23 G_a
  have Z47 : n0 ≤ h47.size := by rw [Wr.size W47]; exact Z33
  have K47 : Keep h0 h47 [a] := K33.wr W47 (Or.inl (List.mem_of_getElem? (i := 0) rfl))
  refine own_S (mkF m 26 #[rv a, rv da] [(.ref a)]) (fun _ k => XS.aloadN X47.here hx rfl (hb hby d1_25) rfl rfl k) ?_
  refine own_S (mkF m 27 #[rv a, rv da] [(.ref da), (.ref a)]) (fun _ k => XS.aloadN X47.here hx rfl (hb hby d1_26) rfl rfl k) ?_
  refine own_S (mkF m 28 #[rv a, rv da] [(.int 3), (.ref a)]) (fun _ k => own_alen X47 hx hZ e47 F55 (g := (mkF m 27 #[rv a, rv da] [(.ref da), (.ref a)])) rfl rfl (hb hby d1_27) _ k) ?_
  obtain ⟨T58, h58, cA58, X58, e58, E58, A58, st58⟩ := newP X47 hx hZ (own_g hw (i := 0) rfl) e47 (g := (mkF m 28 #[rv a, rv da] [(.int 3), (.ref a)])) rfl (hb hby d1_28) rfl (by decide) (cap := 3) (by decide) (by decide) (by decide) (by decide)
  obtain ⟨oa, g58⟩ : ∃ z, z = h47.size := ⟨_, rfl⟩
  rw [← g58] at A58 st58
  have n59 : a ≠ oa := Nat.ne_of_lt (Nat.lt_of_lt_of_eq F48.lt g58.symm)
  have n60 : da ≠ oa := Nat.ne_of_lt (Nat.lt_of_lt_of_eq F55.lt g58.symm)
  have n61 : ha ≠ oa := Nat.ne_of_lt (Nat.lt_of_lt_of_eq F56.lt g58.symm)
  have n62 : pa ≠ oa := Nat.ne_of_lt (Nat.lt_of_lt_of_eq F57.lt g58.symm)
  have ge_oa : n0 ≤ oa := Nat.le_trans Z47 (Nat.le_of_eq g58.symm)
  have fr_oa : h0.size ≤ oa := Nat.le_trans K47.1 (Nat.le_of_eq g58.symm)
  have K58 : Keep h0 h58 [a] := K47.ext E58
  have F63 := F48.ext E58
  have F64 := F49.ext E58
  have F65 := F50.ext E58
  have F66 := F51.ext E58
  have F67 := F52.ext E58
  have F68 := F53.ext E58
  have F69 := F54.ext E58
  have F70 := F55.ext E58
  have F71 := F56.ext E58
  have F72 := F57.ext E58
  have Z58 : n0 ≤ h58.size := Nat.le_trans Z47 E58.1
  have F73 : own_Ar Z h58 oa cA58 .long [(.long (0 : Int64)), (.long (0 : Int64)), (.long (0 : Int64))] := own_Ar.new A58 rfl
  refine own_S (mkF m 30 #[rv a, rv da] [(.ref oa), (.ref a)]) st58 ?_
  obtain ⟨T74, h74, X74, e74, W74, st74⟩ := putF X58 hx hZ hown (host := "") (Or.inl (own_g hw (i := 17) rfl)) Via.refl e58 F67 F63 (Or.inr ⟨(own_g hw (i := 18) rfl), rfl, hnm⟩) (own_g hw (i := 2) rfl) (ty := (.array .long)) (by decide) rfl rfl (g := (mkF m 30 #[rv a, rv da] [(.ref oa), (.ref a)])) rfl rfl (hb hby d1_30)
  refine own_S (mkF m 33 #[rv a, rv da] []) st74 ?_
  have F75 := F63.wr W74
  have F76 := F64.other W74 (Or.inr (slot_ne (Or.inr (own_g hw (i := 11) rfl)) (Or.inr (own_g hw (i := 18) rfl)) (by decide) (t := (.array .long)) (t' := (.array .long)) (by decide) (by decide)))
  have F77 := F65.other W74 (Or.inr (slot_ne (Or.inr (own_g hw (i := 14) rfl)) (Or.inr (own_g hw (i := 18) rfl)) (by decide) (t := (.array .int)) (t' := (.array .long)) (by decide) (by decide)))
  have F78 := F66.other W74 (Or.inr (slot_ne (Or.inr (own_g hw (i := 16) rfl)) (Or.inr (own_g hw (i := 18) rfl)) (by decide) (t := (.array .int)) (t' := (.array .long)) (by decide) (by decide)))
  have F79 := F67.same W74
  have F80 := F68.other W74 (Or.inr (slot_ne (Or.inl (own_g hw (i := 29) rfl)) (Or.inr (own_g hw (i := 18) rfl)) (by decide) (t := .int) (t' := (.array .long)) (by decide) (by decide)))
  have F81 := F69.other W74 (Or.inr (slot_ne (Or.inl (own_g hw (i := 42) rfl)) (Or.inr (own_g hw (i := 18) rfl)) (by decide) (t := .long) (t' := (.array .long)) (by decide) (by decide)))
  have F82 := F70.other W74 (Ne.symm NE_a_da)
  have F83 := F71.other W74 (Ne.symm n12)
  have F84 := F72.other W74 (Ne.symm n34)
  have F85 := F73.other W74 (Ne.symm n59)
  have N74 := Fr.snoc X74 N47 G_a
  have Z74 : n0 ≤ h74.size := by rw [Wr.size W74]; exact Z58
  have K74 : Keep h0 h74 [a] := K58.wr W74 (Or.inl (List.mem_of_getElem? (i := 0) rfl))
  refine own_S (mkF m 34 #[rv a, rv da] [(.ref a)]) (fun _ k => XS.aloadN X74.here hx rfl (hb hby d1_33) rfl rfl k) ?_
  obtain ⟨T86, X86, e86, st86⟩ := getF X74 hx hZ hown (host := "") (Or.inl (own_g hw (i := 15) rfl)) Via.refl e74 F78 (g := (mkF m 34 #[rv a, rv da] [(.ref a)])) rfl rfl (hb hby d1_34)
  refine own_S (mkF m 37 #[rv a, rv da] [(.ref pa)]) st86 ?_
  refine own_S (mkF m 38 #[rv a, rv da] [(.int (-1)), (.ref pa)]) (fun _ k => XS.iconst X86.here hx rfl (hb hby d1_37) k) ?_
  obtain ⟨_, _, ⟨T87, L87, k87, n87⟩, -, X87, ⟨Lc87, hQ87, l87, y87, z87⟩, st87⟩ := Jvm.LawKit.callS X86 hx (y := own_y0) hown (mvT hZ (own_g hw (i := 19) rfl)) (mvT hZ (own_g hw (i := 20) rfl)) (mvT hZ (own_g hw (i := 21) rfl)) (mvT hZ (own_g hw (i := 22) rfl)) (by decide) (backOf (W := 0) (own_rmfl l Z a0 hw [] (pa) (cA33) h74 n0 Z74 F84 ge_pa) hZ (own_g hw (i := 22) rfl) (own_g hw (i := 21) rfl) (by decide) (by decide)) (g := (mkF m 38 #[rv a, rv da] [(.int (-1)), (.ref pa)])) rfl (by rw [hml]; rfl) (argsL := [(.ref pa), (.int (-1))]) (rest := []) (lenOf own_pd___II_V rfl) rfl (by show 2 * 0 + _ ≤ _; exact Nat.le_of_eq rfl) (hb hby d1_38) (fun _ _ => ⟨rfl, e86, (by decide : 3 + 0 ≤ _), (by decide : 9 + 0 ≤ _)⟩)
  dsimp only [Pt.U, Pt.locs, Pt.cells, Pt.slots] at X87 l87 y87 z87 st87 hQ87
  subst l87 y87 z87
  obtain ⟨rfl, N87q, K87q, F88⟩ := hQ87
  have N87 := Fr.app N74 N87q
  refine own_S (mkF m 41 #[rv a, rv da] []) (fun _ k => st87 _ k) ?_
  have K87 : Keep h0 T87.heap [a] := K74.trans K87q (allS (Or.inr fr_pa) all0)
  have F89 := F75.keep K87q
  have F90 := F76.keep K87q (ninS n34 nin0)
  have F91 := F77.keep K87q (ninS n34 nin0)
  have F92 := F78.keep K87q (ninS n34 nin0)
  have F93 := F79.keep K87q (ninS n34 nin0)
  have F94 := F80.keep K87q (ninS n34 nin0)
  have F95 := F81.keep K87q (ninS n34 nin0)
  have F96 := F82.keep K87q (ninS n35 nin0)
  have F97 := F83.keep K87q (ninS n36 nin0)
  have F98 := F85.keep K87q (ninS (Ne.symm n62) nin0)
  have Z87 : n0 ≤ T87.heap.size := Nat.le_trans Z74 K87q.1
  exact own_ret0 X87 hx hlk hret (hb hby d1_41) ⟨ha, pa, oa, cA11, cA33, cA58, rfl, N87, K87, F89, F90, F91, F92, F93, F94, F95, F97, F88, F98, fr_ha, fr_pa, fr_oa, n36, n61, n62⟩ (by decide) (by decide)
theorem d5_0 : decode prog_8_method_2_code 0 = .ok (.aload_n 0, 1) := by decide +kernel
theorem d5_1 : decode prog_8_method_2_code 1 = .ok (.getfield 29, 3) := by decide +kernel
theorem d5_4 : decode prog_8_method_2_code 4 = .ok (.ifCond .ne 7, 3) := by decide +kernel
theorem d5_7 : decode prog_8_method_2_code 7 = .ok (.iconst 1, 1) := by decide +kernel
theorem d5_8 : decode prog_8_method_2_code 8 = .ok (.goto 4, 3) := by decide +kernel
theorem d5_12 : decode prog_8_method_2_code 12 = .ok (.ireturn, 1) := by decide +kernel
theorem own_pf_em : plainFor own_y2 = true := by first | exact plainFor_of_name (show plainName "com/example/stickler/stickler/assignment/NodeQueue" = true by first | (simp [plainName, overriddenIn]; done) | decide +kernel) | decide +kernel
theorem own_ef_em (m : MethodId) (y0 : Addr) : entryFrame m #[(.ref y0)] 1 = mkF m 0 #[rv y0] [] := by first | (simp [entryFrame, mkF, argsToLocals, Value.category]; done) | rfl
def own_Qem (Z : State) (a : Addr) (h0 : Heap) (n0 : Nat) (v : Option Value) (h : Heap) (L : List Loc) : Prop := v = some (.int (1 : Int32)) ∧ Fr n0 L ∧ h = h0
set_option maxRecDepth 65536 in
set_option maxHeartbeats 40000000 in
theorem own_rmem (l : Launch) (Z : State) (a0 : Array Value) (hw : ∀ d ∈ tables_1, d.before a0 Z = true) (ws : List Jvm.Cond) (a : Addr) (h0 : Heap) (n0 : Nat) (Z0 : n0 ≤ h0.size) (P0 : Fld Z h0 a "com/example/stickler/stickler/assignment/NodeQueue" "size" "I" (.int (0 : Int32))) :
    MetFree l own_y2 (head1 (Jvm.Cond.code own_y2 prog_8_method_2_code 1 (some .boolean) :: ws) ({ frames := 0, cells := 0, slots := 0, locals := 0 } : Room)) (fun az Uz => az = #[(.ref a)] ∧ Z.Warmed39 Uz.vm ∧ Uz.heap = h0) (fun _ _ _ _ _ => True) (fun _ U o U' => ∃ v L, o = .returned v ∧ own_Qem Z a h0 n0 v U'.heap L ∧ FrameEnd U o U' L ({ frames := 0, cells := 0, slots := 0, locals := 0 } : Room).cells ({ frames := 0, cells := 0, slots := 0, locals := 0 } : Room).slots) := by
  refine MetFree.of_bodySF own_pf_em hisR ?_
  intro p e s m args below meth c s₁ Bd hml0 hP hK
  obtain ⟨rfl, hZ, hh⟩ := hP
  have hx := Bd.exec
  have hby := Bd.bytes
  have hml : c.maxLocals = 1 := hml0
  have hown : s.vm.findClass "com/example/stickler/stickler/assignment/NodeQueue" = some m.cls := findClass_of_methodNamed Bd.named
  have hnm := (name_of_methodNamed Bd.named Bd.method).1
  have hlk : meth.locks = false := BodyLoose.notSynchronized Bd
  have hret := Bd.returns
  have X0 : Stand p l e ({ frames := 0, cells := 0, slots := 0, locals := 0 } : Room) s m #[(.ref a)] below meth c s₁ [] 0 0 := Stand.of_body Bd
  have e0 : s₁.heap = h0 := by rw [← hh, Bd.state]; rfl
  have N0 := Fr.nil n0
  show own_E p e below (own_K s (own_Qem Z a h0 n0) ({ frames := 0, cells := 0, slots := 0, locals := 0 } : Room).cells ({ frames := 0, cells := 0, slots := 0, locals := 0 } : Room).slots) s₁ (entryFrame m #[(.ref a)] 1)
  refine own_S (mkF m 0 #[rv a] []) (fun _ k => castTop (own_ef_em m (a)) k) ?_
  refine own_S (mkF m 1 #[rv a] [(.ref a)]) (fun _ k => XS.aloadN X0.here hx rfl (hb hby d5_0) rfl rfl k) ?_
  obtain ⟨T1, X1, e1, st1⟩ := getF X0 hx hZ hown (host := "") (Or.inl (own_g hw (i := 28) rfl)) Via.refl e0 P0 (g := (mkF m 1 #[rv a] [(.ref a)])) rfl rfl (hb hby d5_1)
  refine own_S (mkF m 4 #[rv a] [(.int 0)]) st1 ?_
  have hc2 : (0 : Int32) = (0 : Int32) := by decide
  refine own_S (mkF m 7 #[rv a] []) (fun _ k => XS.ifNo X1.here hx rfl (hb hby d5_4) rfl ((if0 _ _).trans (teq hc2).2) k) ?_
  refine own_S (mkF m 8 #[rv a] [(.int 1)]) (fun _ k => XS.iconst X1.here hx rfl (hb hby d5_7) k) ?_
  refine own_S (mkF m 12 #[rv a] [(.int 1)]) (fun _ k => XS.goto X1.here hx rfl (pc0 := 8) (pc' := 12) rfl (hb hby d5_8) (by decide) (by decide) k) ?_
  exact own_retN X1 hx hlk (t := .boolean) hret (by simp) (hb hby d5_12) (by rw [e1]; exact ⟨rfl, N0, rfl⟩) (by decide) (by decide)
theorem d5_11 : decode prog_8_method_2_code 11 = .ok (.iconst 0, 1) := by decide +kernel
theorem own_pf_ne : plainFor own_y2 = true := by first | exact plainFor_of_name (show plainName "com/example/stickler/stickler/assignment/NodeQueue" = true by first | (simp [plainName, overriddenIn]; done) | decide +kernel) | decide +kernel
theorem own_ef_ne (m : MethodId) (y0 : Addr) : entryFrame m #[(.ref y0)] 1 = mkF m 0 #[rv y0] [] := by first | (simp [entryFrame, mkF, argsToLocals, Value.category]; done) | rfl
def own_Qne (Z : State) (a : Addr) (sz : Int32) (h0 : Heap) (n0 : Nat) (v : Option Value) (h : Heap) (L : List Loc) : Prop := v = some (.int (0 : Int32)) ∧ Fr n0 L ∧ h = h0
set_option maxRecDepth 65536 in
set_option maxHeartbeats 40000000 in
theorem own_rmne (l : Launch) (Z : State) (a0 : Array Value) (hw : ∀ d ∈ tables_1, d.before a0 Z = true) (ws : List Jvm.Cond) (a : Addr) (sz : Int32) (h0 : Heap) (n0 : Nat) (Z0 : n0 ≤ h0.size) (P0 : Fld Z h0 a "com/example/stickler/stickler/assignment/NodeQueue" "size" "I" (.int sz)) (hz : ¬ (sz = (0 : Int32))) :
    MetFree l own_y2 (head1 (Jvm.Cond.code own_y2 prog_8_method_2_code 1 (some .boolean) :: ws) ({ frames := 0, cells := 0, slots := 0, locals := 0 } : Room)) (fun az Uz => az = #[(.ref a)] ∧ Z.Warmed39 Uz.vm ∧ Uz.heap = h0) (fun _ _ _ _ _ => True) (fun _ U o U' => ∃ v L, o = .returned v ∧ own_Qne Z a sz h0 n0 v U'.heap L ∧ FrameEnd U o U' L ({ frames := 0, cells := 0, slots := 0, locals := 0 } : Room).cells ({ frames := 0, cells := 0, slots := 0, locals := 0 } : Room).slots) := by
  refine MetFree.of_bodySF own_pf_ne hisR ?_
  intro p e s m args below meth c s₁ Bd hml0 hP hK
  obtain ⟨rfl, hZ, hh⟩ := hP
  have hx := Bd.exec
  have hby := Bd.bytes
  have hml : c.maxLocals = 1 := hml0
  have hown : s.vm.findClass "com/example/stickler/stickler/assignment/NodeQueue" = some m.cls := findClass_of_methodNamed Bd.named
  have hnm := (name_of_methodNamed Bd.named Bd.method).1
  have hlk : meth.locks = false := BodyLoose.notSynchronized Bd
  have hret := Bd.returns
  have X0 : Stand p l e ({ frames := 0, cells := 0, slots := 0, locals := 0 } : Room) s m #[(.ref a)] below meth c s₁ [] 0 0 := Stand.of_body Bd
  have e0 : s₁.heap = h0 := by rw [← hh, Bd.state]; rfl
  have N0 := Fr.nil n0
  show own_E p e below (own_K s (own_Qne Z a sz h0 n0) ({ frames := 0, cells := 0, slots := 0, locals := 0 } : Room).cells ({ frames := 0, cells := 0, slots := 0, locals := 0 } : Room).slots) s₁ (entryFrame m #[(.ref a)] 1)
  refine own_S (mkF m 0 #[rv a] []) (fun _ k => castTop (own_ef_ne m (a)) k) ?_
  refine own_S (mkF m 1 #[rv a] [(.ref a)]) (fun _ k => XS.aloadN X0.here hx rfl (hb hby d5_0) rfl rfl k) ?_
  obtain ⟨T1, X1, e1, st1⟩ := getF X0 hx hZ hown (host := "") (Or.inl (own_g hw (i := 28) rfl)) Via.refl e0 P0 (g := (mkF m 1 #[rv a] [(.ref a)])) rfl rfl (hb hby d5_1)
  refine own_S (mkF m 4 #[rv a] [(.int sz)]) st1 ?_
  have hc2 : ¬ (sz = (0 : Int32)) := hz
  refine own_S (mkF m 11 #[rv a] []) (fun _ k => XS.ifYes X1.here hx rfl (pc0 := 4) (pc' := 11) rfl (hb hby d5_4) rfl ((if0 _ _).trans (feq hc2).2) (by decide) (by decide) k) ?_
  refine own_S (mkF m 12 #[rv a] [(.int 0)]) (fun _ k => XS.iconst X1.here hx rfl (hb hby d5_11) k) ?_
  exact own_retN X1 hx hlk (t := .boolean) hret (by simp) (hb hby d5_12) (by rw [e1]; exact ⟨rfl, N0, rfl⟩) (by decide) (by decide)
theorem d8_0 : decode prog_8_method_11_code 0 = .ok (.aload_n 0, 1) := by decide +kernel
theorem d8_1 : decode prog_8_method_11_code 1 = .ok (.getfield 13, 3) := by decide +kernel
theorem d8_4 : decode prog_8_method_11_code 4 = .ok (.iload_n 2, 1) := by decide +kernel
theorem d8_5 : decode prog_8_method_11_code 5 = .ok (.iload_n 1, 1) := by decide +kernel
theorem d8_6 : decode prog_8_method_11_code 6 = .ok (.iastore, 1) := by decide +kernel
theorem d8_7 : decode prog_8_method_11_code 7 = .ok (.aload_n 0, 1) := by decide +kernel
theorem d8_8 : decode prog_8_method_11_code 8 = .ok (.getfield 17, 3) := by decide +kernel
theorem d8_11 : decode prog_8_method_11_code 11 = .ok (.iload_n 1, 1) := by decide +kernel
theorem d8_12 : decode prog_8_method_11_code 12 = .ok (.iload_n 2, 1) := by decide +kernel
theorem d8_13 : decode prog_8_method_11_code 13 = .ok (.iastore, 1) := by decide +kernel
theorem d8_14 : decode prog_8_method_11_code 14 = .ok (.return_, 1) := by decide +kernel
theorem own_pf_mt : plainFor own_y3 = true := by first | exact plainFor_of_name (show plainName "com/example/stickler/stickler/assignment/NodeQueue" = true by first | (simp [plainName, overriddenIn]; done) | decide +kernel) | decide +kernel
theorem own_ef_mt (m : MethodId) (y0 : Addr) (y1 : Int32) (y2 : Int32) : entryFrame m #[(.ref y0), (.int y1), (.int y2)] 3 = mkF m 0 #[rv y0, iv y1, iv y2] [] := by first | (simp [entryFrame, mkF, argsToLocals, Value.category]; done) | rfl
def own_Qmt (Z : State) (a : Addr) (ha : Addr) (pa : Addr) (nd : Int32) (ix : Int32) (kh : ClassId) (kp : ClassId) (H : List Value) (P : List Value) (h0 : Heap) (n0 : Nat) (v : Option Value) (h : Heap) (L : List Loc) : Prop := v = none ∧ Fr n0 L ∧ Keep h0 h [ha, pa] ∧ own_Ar Z h ha kh .int (H.set (ix).toNatClampNeg (.int nd)) ∧ own_Ar Z h pa kp .int (P.set (nd).toNatClampNeg (.int ix))
set_option maxRecDepth 65536 in
set_option maxHeartbeats 40000000 in
theorem own_rmmt (l : Launch) (Z : State) (a0 : Array Value) (hw : ∀ d ∈ tables_1, d.before a0 Z = true) (ws : List Jvm.Cond) (a : Addr) (ha : Addr) (pa : Addr) (nd : Int32) (ix : Int32) (kh : ClassId) (kp : ClassId) (H : List Value) (P : List Value) (h0 : Heap) (n0 : Nat) (Z0 : n0 ≤ h0.size) (P0 : Fld Z h0 a "com/example/stickler/stickler/assignment/NodeQueue" "heap" "[I" (.ref ha)) (P1 : Fld Z h0 a "com/example/stickler/stickler/assignment/NodeQueue" "place" "[I" (.ref pa)) (P2 : own_Ar Z h0 ha kh .int H) (P3 : own_Ar Z h0 pa kp .int P) (G_ha : n0 ≤ ha) (G_pa : n0 ≤ pa) (NE_a_ha : a ≠ ha) (NE_a_pa : a ≠ pa) (NE_ha_pa : ha ≠ pa) (hi0 : ¬ ix < (0 : Int32)) (hi1 : (ix).toNatClampNeg < H.length) (hn0 : ¬ nd < (0 : Int32)) (hn1 : (nd).toNatClampNeg < P.length) :
    MetFree l own_y3 (head1 (Jvm.Cond.code own_y3 prog_8_method_11_code 3 none :: ws) ({ frames := 0, cells := 0, slots := 0, locals := 0 } : Room)) (fun az Uz => az = #[(.ref a), (.int nd), (.int ix)] ∧ Z.Warmed39 Uz.vm ∧ Uz.heap = h0) (fun _ _ _ _ _ => True) (fun _ U o U' => ∃ v L, o = .returned v ∧ own_Qmt Z a ha pa nd ix kh kp H P h0 n0 v U'.heap L ∧ FrameEnd U o U' L ({ frames := 0, cells := 0, slots := 0, locals := 0 } : Room).cells ({ frames := 0, cells := 0, slots := 0, locals := 0 } : Room).slots) := by
  refine MetFree.of_bodySF own_pf_mt hisR ?_
  intro p e s m args below meth c s₁ Bd hml0 hP hK
  obtain ⟨rfl, hZ, hh⟩ := hP
  have hx := Bd.exec
  have hby := Bd.bytes
  have hml : c.maxLocals = 3 := hml0
  have hown : s.vm.findClass "com/example/stickler/stickler/assignment/NodeQueue" = some m.cls := findClass_of_methodNamed Bd.named
  have hnm := (name_of_methodNamed Bd.named Bd.method).1
  have hlk : meth.locks = false := BodyLoose.notSynchronized Bd
  have hret := Bd.returns
  have X0 : Stand p l e ({ frames := 0, cells := 0, slots := 0, locals := 0 } : Room) s m #[(.ref a), (.int nd), (.int ix)] below meth c s₁ [] 0 0 := Stand.of_body Bd
  have e0 : s₁.heap = h0 := by rw [← hh, Bd.state]; rfl
  have N0 := Fr.nil n0
  show own_E p e below (own_K s (own_Qmt Z a ha pa nd ix kh kp H P h0 n0) ({ frames := 0, cells := 0, slots := 0, locals := 0 } : Room).cells ({ frames := 0, cells := 0, slots := 0, locals := 0 } : Room).slots) s₁ (entryFrame m #[(.ref a), (.int nd), (.int ix)] 3)
  refine own_S (mkF m 0 #[rv a, iv nd, iv ix] []) (fun _ k => castTop (own_ef_mt m (a) (nd) (ix)) k) ?_
  refine own_S (mkF m 1 #[rv a, iv nd, iv ix] [(.ref a)]) (fun _ k => XS.aloadN X0.here hx rfl (hb hby d8_0) rfl rfl k) ?_
  obtain ⟨T1, X1, e1, st1⟩ := getF X0 hx hZ hown (host := "") (Or.inl (own_g hw (i := 13) rfl)) Via.refl e0 P0 (g := (mkF m 1 #[rv a, iv nd, iv ix] [(.ref a)])) rfl rfl (hb hby d8_1)
  refine own_S (mkF m 4 #[rv a, iv nd, iv ix] [(.ref ha)]) st1 ?_
  refine own_S (mkF m 5 #[rv a, iv nd, iv ix] [(.int ix), (.ref ha)]) (fun _ k => XS.iloadN X1.here hx rfl (hb hby d8_4) rfl k) ?_
  refine own_S (mkF m 6 #[rv a, iv nd, iv ix] [(.int nd), (.int ix), (.ref ha)]) (fun _ k => XS.iloadN X1.here hx rfl (hb hby d8_5) rfl k) ?_
  obtain ⟨T2, h2, X2, e2, W2, AR2, st2⟩ := own_stI (j := ix) X1 hx hZ e1 P2 hi0 hi1 (g := (mkF m 6 #[rv a, iv nd, iv ix] [(.int nd), (.int ix), (.ref ha)])) rfl rfl (hb hby d8_6)
  refine own_S (mkF m 7 #[rv a, iv nd, iv ix] []) st2 ?_
  have F3 := P0.other W2 (Or.inl NE_a_ha)
  have F4 := P1.other W2 (Or.inl NE_a_ha)
  have F5 := P3.other W2 (Ne.symm NE_ha_pa)
  have F6 : own_Ar Z h2 ha kh .int (H.set (ix).toNatClampNeg (.int nd)) := AR2
  have N2 := Fr.snoc X2 N0 G_ha
  have Z2 : n0 ≤ h2.size := by rw [Wr.size W2]; exact Z0
  have K2 : Keep h0 h2 [ha, pa] := (Keep.refl _ _).wr W2 (Or.inl (List.mem_of_getElem? (i := 0) rfl))
  refine own_S (mkF m 8 #[rv a, iv nd, iv ix] [(.ref a)]) (fun _ k => XS.aloadN X2.here hx rfl (hb hby d8_7) rfl rfl k) ?_
  obtain ⟨T7, X7, e7, st7⟩ := getF X2 hx hZ hown (host := "") (Or.inl (own_g hw (i := 15) rfl)) Via.refl e2 F4 (g := (mkF m 8 #[rv a, iv nd, iv ix] [(.ref a)])) rfl rfl (hb hby d8_8)
  refine own_S (mkF m 11 #[rv a, iv nd, iv ix] [(.ref pa)]) st7 ?_
  refine own_S (mkF m 12 #[rv a, iv nd, iv ix] [(.int nd), (.ref pa)]) (fun _ k => XS.iloadN X7.here hx rfl (hb hby d8_11) rfl k) ?_
  refine own_S (mkF m 13 #[rv a, iv nd, iv ix] [(.int ix), (.int nd), (.ref pa)]) (fun _ k => XS.iloadN X7.here hx rfl (hb hby d8_12) rfl k) ?_
  obtain ⟨T8, h8, X8, e8, W8, AR8, st8⟩ := own_stI (j := nd) X7 hx hZ e7 F5 hn0 hn1 (g := (mkF m 13 #[rv a, iv nd, iv ix] [(.int ix), (.int nd), (.ref pa)])) rfl rfl (hb hby d8_13)
  refine own_S (mkF m 14 #[rv a, iv nd, iv ix] []) st8 ?_
  have F9 := F3.other W8 (Or.inl NE_a_pa)
  have F10 := F4.other W8 (Or.inl NE_a_pa)
  have F11 := F6.other W8 NE_ha_pa
  have F12 : own_Ar Z h8 pa kp .int (P.set (nd).toNatClampNeg (.int ix)) := AR8
  have N8 := Fr.snoc X8 N2 G_pa
  have Z8 : n0 ≤ h8.size := by rw [Wr.size W8]; exact Z2
  have K8 : Keep h0 h8 [ha, pa] := K2.wr W8 (Or.inl (List.mem_of_getElem? (i := 1) rfl))
  exact own_ret0 X8 hx hlk hret (hb hby d8_14) (by rw [e8]; exact ⟨rfl, N8, K8, F11, F12⟩) (by decide) (by decide)
theorem d9_0 : decode prog_8_method_8_code 0 = .ok (.aload_n 0, 1) := by decide +kernel
theorem d9_1 : decode prog_8_method_8_code 1 = .ok (.getfield 7, 3) := by decide +kernel
theorem d9_4 : decode prog_8_method_8_code 4 = .ok (.iload_n 1, 1) := by decide +kernel
theorem d9_5 : decode prog_8_method_8_code 5 = .ok (.laload, 1) := by decide +kernel
theorem d9_6 : decode prog_8_method_8_code 6 = .ok (.aload_n 0, 1) := by decide +kernel
theorem d9_7 : decode prog_8_method_8_code 7 = .ok (.getfield 7, 3) := by decide +kernel
theorem d9_10 : decode prog_8_method_8_code 10 = .ok (.iload_n 2, 1) := by decide +kernel
theorem d9_11 : decode prog_8_method_8_code 11 = .ok (.laload, 1) := by decide +kernel
theorem d9_12 : decode prog_8_method_8_code 12 = .ok (.lcmp, 1) := by decide +kernel
theorem d9_13 : decode prog_8_method_8_code 13 = .ok (.ifCond .lt 35, 3) := by decide +kernel
theorem d9_16 : decode prog_8_method_8_code 16 = .ok (.aload_n 0, 1) := by decide +kernel
theorem d9_17 : decode prog_8_method_8_code 17 = .ok (.getfield 7, 3) := by decide +kernel
theorem d9_20 : decode prog_8_method_8_code 20 = .ok (.iload_n 1, 1) := by decide +kernel
theorem d9_21 : decode prog_8_method_8_code 21 = .ok (.laload, 1) := by decide +kernel
theorem d9_22 : decode prog_8_method_8_code 22 = .ok (.aload_n 0, 1) := by decide +kernel
theorem d9_23 : decode prog_8_method_8_code 23 = .ok (.getfield 7, 3) := by decide +kernel
theorem d9_26 : decode prog_8_method_8_code 26 = .ok (.iload_n 2, 1) := by decide +kernel
theorem d9_27 : decode prog_8_method_8_code 27 = .ok (.laload, 1) := by decide +kernel
theorem d9_28 : decode prog_8_method_8_code 28 = .ok (.lcmp, 1) := by decide +kernel
theorem d9_29 : decode prog_8_method_8_code 29 = .ok (.ifCond .ne 23, 3) := by decide +kernel
theorem d9_32 : decode prog_8_method_8_code 32 = .ok (.aload_n 0, 1) := by decide +kernel
theorem d9_33 : decode prog_8_method_8_code 33 = .ok (.getfield 20, 3) := by decide +kernel
theorem d9_36 : decode prog_8_method_8_code 36 = .ok (.iload_n 1, 1) := by decide +kernel
theorem d9_37 : decode prog_8_method_8_code 37 = .ok (.laload, 1) := by decide +kernel
theorem d9_38 : decode prog_8_method_8_code 38 = .ok (.aload_n 0, 1) := by decide +kernel
theorem d9_39 : decode prog_8_method_8_code 39 = .ok (.getfield 20, 3) := by decide +kernel
theorem d9_42 : decode prog_8_method_8_code 42 = .ok (.iload_n 2, 1) := by decide +kernel
theorem d9_43 : decode prog_8_method_8_code 43 = .ok (.laload, 1) := by decide +kernel
theorem d9_44 : decode prog_8_method_8_code 44 = .ok (.lcmp, 1) := by decide +kernel
theorem d9_45 : decode prog_8_method_8_code 45 = .ok (.ifCond .le 7, 3) := by decide +kernel
theorem d9_48 : decode prog_8_method_8_code 48 = .ok (.iconst 1, 1) := by decide +kernel
theorem d9_49 : decode prog_8_method_8_code 49 = .ok (.goto 4, 3) := by decide +kernel
theorem d9_52 : decode prog_8_method_8_code 52 = .ok (.iconst 0, 1) := by decide +kernel
theorem d9_53 : decode prog_8_method_8_code 53 = .ok (.ireturn, 1) := by decide +kernel
theorem own_pf_bf : plainFor own_y4 = true := by first | exact plainFor_of_name (show plainName "com/example/stickler/stickler/assignment/NodeQueue" = true by first | (simp [plainName, overriddenIn]; done) | decide +kernel) | decide +kernel
theorem own_ef_bf (m : MethodId) (y0 : Addr) (y1 : Int32) (y2 : Int32) : entryFrame m #[(.ref y0), (.int y1), (.int y2)] 3 = mkF m 0 #[rv y0, iv y1, iv y2] [] := by first | (simp [entryFrame, mkF, argsToLocals, Value.category]; done) | rfl
def own_Qbf (Z : State) (a : Addr) (da : Addr) (oa : Addr) (x1 : Int32) (y1 : Int32) (kd : ClassId) (ko : ClassId) (D : List Value) (O : List Value) (dx : Int64) (dy : Int64) (ox : Int64) (oy : Int64) (h0 : Heap) (n0 : Nat) (v : Option Value) (h : Heap) (L : List Loc) : Prop := v = some (.int (if (dx < dy ∨ (dx = dy ∧ oy < ox)) then (1 : Int32) else (0 : Int32))) ∧ Fr n0 L ∧ h = h0
set_option maxRecDepth 65536 in
set_option maxHeartbeats 40000000 in
theorem own_rmbf (l : Launch) (Z : State) (a0 : Array Value) (hw : ∀ d ∈ tables_1, d.before a0 Z = true) (ws : List Jvm.Cond) (a : Addr) (da : Addr) (oa : Addr) (x1 : Int32) (y1 : Int32) (kd : ClassId) (ko : ClassId) (D : List Value) (O : List Value) (dx : Int64) (dy : Int64) (ox : Int64) (oy : Int64) (h0 : Heap) (n0 : Nat) (Z0 : n0 ≤ h0.size) (P0 : Fld Z h0 a "com/example/stickler/stickler/assignment/NodeQueue" "distance" "[J" (.ref da)) (P1 : Fld Z h0 a "com/example/stickler/stickler/assignment/NodeQueue" "offered" "[J" (.ref oa)) (P2 : own_Ar Z h0 da kd .long D) (P3 : own_Ar Z h0 oa ko .long O) (hx0 : ¬ x1 < (0 : Int32)) (hy0 : ¬ y1 < (0 : Int32)) (hdx : D[(x1).toNatClampNeg]? = some (.long dx)) (hdy : D[(y1).toNatClampNeg]? = some (.long dy)) (hox : O[(x1).toNatClampNeg]? = some (.long ox)) (hoy : O[(y1).toNatClampNeg]? = some (.long oy)) :
    MetFree l own_y4 (head1 (Jvm.Cond.code own_y4 prog_8_method_8_code 3 (some .boolean) :: ws) ({ frames := 0, cells := 0, slots := 0, locals := 0 } : Room)) (fun az Uz => az = #[(.ref a), (.int x1), (.int y1)] ∧ Z.Warmed39 Uz.vm ∧ Uz.heap = h0) (fun _ _ _ _ _ => True) (fun _ U o U' => ∃ v L, o = .returned v ∧ own_Qbf Z a da oa x1 y1 kd ko D O dx dy ox oy h0 n0 v U'.heap L ∧ FrameEnd U o U' L ({ frames := 0, cells := 0, slots := 0, locals := 0 } : Room).cells ({ frames := 0, cells := 0, slots := 0, locals := 0 } : Room).slots) := by
  refine MetFree.of_bodySF own_pf_bf hisR ?_
  intro p e s m args below meth c s₁ Bd hml0 hP hK
  obtain ⟨rfl, hZ, hh⟩ := hP
  have hx := Bd.exec
  have hby := Bd.bytes
  have hml : c.maxLocals = 3 := hml0
  have hown : s.vm.findClass "com/example/stickler/stickler/assignment/NodeQueue" = some m.cls := findClass_of_methodNamed Bd.named
  have hnm := (name_of_methodNamed Bd.named Bd.method).1
  have hlk : meth.locks = false := BodyLoose.notSynchronized Bd
  have hret := Bd.returns
  have X0 : Stand p l e ({ frames := 0, cells := 0, slots := 0, locals := 0 } : Room) s m #[(.ref a), (.int x1), (.int y1)] below meth c s₁ [] 0 0 := Stand.of_body Bd
  have e0 : s₁.heap = h0 := by rw [← hh, Bd.state]; rfl
  have N0 := Fr.nil n0
  show own_E p e below (own_K s (own_Qbf Z a da oa x1 y1 kd ko D O dx dy ox oy h0 n0) ({ frames := 0, cells := 0, slots := 0, locals := 0 } : Room).cells ({ frames := 0, cells := 0, slots := 0, locals := 0 } : Room).slots) s₁ (entryFrame m #[(.ref a), (.int x1), (.int y1)] 3)
  refine own_S (mkF m 0 #[rv a, iv x1, iv y1] []) (fun _ k => castTop (own_ef_bf m (a) (x1) (y1)) k) ?_
  refine own_S (mkF m 1 #[rv a, iv x1, iv y1] [(.ref a)]) (fun _ k => XS.aloadN X0.here hx rfl (hb hby d9_0) rfl rfl k) ?_
  obtain ⟨T1, X1, e1, st1⟩ := getF X0 hx hZ hown (host := "") (Or.inl (own_g hw (i := 10) rfl)) Via.refl e0 P0 (g := (mkF m 1 #[rv a, iv x1, iv y1] [(.ref a)])) rfl rfl (hb hby d9_1)
  refine own_S (mkF m 4 #[rv a, iv x1, iv y1] [(.ref da)]) st1 ?_
  refine own_S (mkF m 5 #[rv a, iv x1, iv y1] [(.int x1), (.ref da)]) (fun _ k => XS.iloadN X1.here hx rfl (hb hby d9_4) rfl k) ?_
  refine own_S (mkF m 6 #[rv a, iv x1, iv y1] [(.long dx)]) (fun _ k => own_ldJ (j := x1) (v := (.long dx)) X1 hx hZ e1 P2 hx0 hdx (g := (mkF m 5 #[rv a, iv x1, iv y1] [(.int x1), (.ref da)])) rfl rfl (hb hby d9_5) _ k) ?_
  refine own_S (mkF m 7 #[rv a, iv x1, iv y1] [(.ref a), (.long dx)]) (fun _ k => XS.aloadN X1.here hx rfl (hb hby d9_6) rfl rfl k) ?_
  obtain ⟨T2, X2, e2, st2⟩ := getF X1 hx hZ hown (host := "") (Or.inl (own_g hw (i := 10) rfl)) Via.refl e1 P0 (g := (mkF m 7 #[rv a, iv x1, iv y1] [(.ref a), (.long dx)])) rfl rfl (hb hby d9_7)
  refine own_S (mkF m 10 #[rv a, iv x1, iv y1] [(.ref da), (.long dx)]) st2 ?_
  refine own_S (mkF m 11 #[rv a, iv x1, iv y1] [(.int y1), (.ref da), (.long dx)]) (fun _ k => XS.iloadN X2.here hx rfl (hb hby d9_10) rfl k) ?_
  refine own_S (mkF m 12 #[rv a, iv x1, iv y1] [(.long dy), (.long dx)]) (fun _ k => own_ldJ (j := y1) (v := (.long dy)) X2 hx hZ e2 P2 hy0 hdy (g := (mkF m 11 #[rv a, iv x1, iv y1] [(.int y1), (.ref da), (.long dx)])) rfl rfl (hb hby d9_11) _ k) ?_
  refine own_S (mkF m 13 #[rv a, iv x1, iv y1] [(.int (lcmpW dx dy))]) (fun _ k => XS.lcmp X2.here hx rfl (hb hby d9_12) rfl k) ?_
  by_cases h1 : dx < dy
  · -- dx < dy
    refine own_S (mkF m 48 #[rv a, iv x1, iv y1] []) (fun _ k => XS.ifYes X2.here hx rfl (pc0 := 13) (pc' := 48) rfl (hb hby d9_13) rfl ((if0 _ _).trans (tlt ((lw_lt dx dy).mpr h1)).1) (by decide) (by decide) k) ?_
    refine own_S (mkF m 49 #[rv a, iv x1, iv y1] [(.int 1)]) (fun _ k => XS.iconst X2.here hx rfl (hb hby d9_48) k) ?_
    refine own_S (mkF m 53 #[rv a, iv x1, iv y1] [(.int 1)]) (fun _ k => XS.goto X2.here hx rfl (pc0 := 49) (pc' := 53) rfl (hb hby d9_49) (by decide) (by decide) k) ?_
    exact own_retN X2 hx hlk (t := .boolean) hret (by simp) (hb hby d9_53) (by rw [e2]; exact ⟨(by rw [if_pos (Or.inl h1)]; rfl), N0, rfl⟩) (by decide) (by decide)
  · -- not dx < dy
    refine own_S (mkF m 16 #[rv a, iv x1, iv y1] []) (fun _ k => XS.ifNo X2.here hx rfl (hb hby d9_13) rfl ((if0 _ _).trans (flt (fun q => h1 ((lw_lt dx dy).mp q))).1) k) ?_
    refine own_S (mkF m 17 #[rv a, iv x1, iv y1] [(.ref a)]) (fun _ k => XS.aloadN X2.here hx rfl (hb hby d9_16) rfl rfl k) ?_
    obtain ⟨T3, X3, e3, st3⟩ := getF X2 hx hZ hown (host := "") (Or.inl (own_g hw (i := 10) rfl)) Via.refl e2 P0 (g := (mkF m 17 #[rv a, iv x1, iv y1] [(.ref a)])) rfl rfl (hb hby d9_17)
    refine own_S (mkF m 20 #[rv a, iv x1, iv y1] [(.ref da)]) st3 ?_
    refine own_S (mkF m 21 #[rv a, iv x1, iv y1] [(.int x1), (.ref da)]) (fun _ k => XS.iloadN X3.here hx rfl (hb hby d9_20) rfl k) ?_
    refine own_S (mkF m 22 #[rv a, iv x1, iv y1] [(.long dx)]) (fun _ k => own_ldJ (j := x1) (v := (.long dx)) X3 hx hZ e3 P2 hx0 hdx (g := (mkF m 21 #[rv a, iv x1, iv y1] [(.int x1), (.ref da)])) rfl rfl (hb hby d9_21) _ k) ?_
    refine own_S (mkF m 23 #[rv a, iv x1, iv y1] [(.ref a), (.long dx)]) (fun _ k => XS.aloadN X3.here hx rfl (hb hby d9_22) rfl rfl k) ?_
    obtain ⟨T4, X4, e4, st4⟩ := getF X3 hx hZ hown (host := "") (Or.inl (own_g hw (i := 10) rfl)) Via.refl e3 P0 (g := (mkF m 23 #[rv a, iv x1, iv y1] [(.ref a), (.long dx)])) rfl rfl (hb hby d9_23)
    refine own_S (mkF m 26 #[rv a, iv x1, iv y1] [(.ref da), (.long dx)]) st4 ?_
    refine own_S (mkF m 27 #[rv a, iv x1, iv y1] [(.int y1), (.ref da), (.long dx)]) (fun _ k => XS.iloadN X4.here hx rfl (hb hby d9_26) rfl k) ?_
    refine own_S (mkF m 28 #[rv a, iv x1, iv y1] [(.long dy), (.long dx)]) (fun _ k => own_ldJ (j := y1) (v := (.long dy)) X4 hx hZ e4 P2 hy0 hdy (g := (mkF m 27 #[rv a, iv x1, iv y1] [(.int y1), (.ref da), (.long dx)])) rfl rfl (hb hby d9_27) _ k) ?_
    refine own_S (mkF m 29 #[rv a, iv x1, iv y1] [(.int (lcmpW dx dy))]) (fun _ k => XS.lcmp X4.here hx rfl (hb hby d9_28) rfl k) ?_
    by_cases h2 : dx = dy
    · -- dx = dy
      refine own_S (mkF m 32 #[rv a, iv x1, iv y1] []) (fun _ k => XS.ifNo X4.here hx rfl (hb hby d9_29) rfl ((if0 _ _).trans (teq ((lw_eq dx dy).mpr h2)).2) k) ?_
      refine own_S (mkF m 33 #[rv a, iv x1, iv y1] [(.ref a)]) (fun _ k => XS.aloadN X4.here hx rfl (hb hby d9_32) rfl rfl k) ?_
      obtain ⟨T5, X5, e5, st5⟩ := getF X4 hx hZ hown (host := "") (Or.inl (own_g hw (i := 17) rfl)) Via.refl e4 P1 (g := (mkF m 33 #[rv a, iv x1, iv y1] [(.ref a)])) rfl rfl (hb hby d9_33)
      refine own_S (mkF m 36 #[rv a, iv x1, iv y1] [(.ref oa)]) st5 ?_
      refine own_S (mkF m 37 #[rv a, iv x1, iv y1] [(.int x1), (.ref oa)]) (fun _ k => XS.iloadN X5.here hx rfl (hb hby d9_36) rfl k) ?_
      refine own_S (mkF m 38 #[rv a, iv x1, iv y1] [(.long ox)]) (fun _ k => own_ldJ (j := x1) (v := (.long ox)) X5 hx hZ e5 P3 hx0 hox (g := (mkF m 37 #[rv a, iv x1, iv y1] [(.int x1), (.ref oa)])) rfl rfl (hb hby d9_37) _ k) ?_
      refine own_S (mkF m 39 #[rv a, iv x1, iv y1] [(.ref a), (.long ox)]) (fun _ k => XS.aloadN X5.here hx rfl (hb hby d9_38) rfl rfl k) ?_
      obtain ⟨T6, X6, e6, st6⟩ := getF X5 hx hZ hown (host := "") (Or.inl (own_g hw (i := 17) rfl)) Via.refl e5 P1 (g := (mkF m 39 #[rv a, iv x1, iv y1] [(.ref a), (.long ox)])) rfl rfl (hb hby d9_39)
      refine own_S (mkF m 42 #[rv a, iv x1, iv y1] [(.ref oa), (.long ox)]) st6 ?_
      refine own_S (mkF m 43 #[rv a, iv x1, iv y1] [(.int y1), (.ref oa), (.long ox)]) (fun _ k => XS.iloadN X6.here hx rfl (hb hby d9_42) rfl k) ?_
      refine own_S (mkF m 44 #[rv a, iv x1, iv y1] [(.long oy), (.long ox)]) (fun _ k => own_ldJ (j := y1) (v := (.long oy)) X6 hx hZ e6 P3 hy0 hoy (g := (mkF m 43 #[rv a, iv x1, iv y1] [(.int y1), (.ref oa), (.long ox)])) rfl rfl (hb hby d9_43) _ k) ?_
      refine own_S (mkF m 45 #[rv a, iv x1, iv y1] [(.int (lcmpW ox oy))]) (fun _ k => XS.lcmp X6.here hx rfl (hb hby d9_44) rfl k) ?_
      by_cases h3 : oy < ox
      · -- oy < ox
        refine own_S (mkF m 48 #[rv a, iv x1, iv y1] []) (fun _ k => XS.ifNo X6.here hx rfl (hb hby d9_45) rfl ((if0 _ _).trans (tlt ((lw_gt ox oy).mpr h3)).2.2.2) k) ?_
        refine own_S (mkF m 49 #[rv a, iv x1, iv y1] [(.int 1)]) (fun _ k => XS.iconst X6.here hx rfl (hb hby d9_48) k) ?_
        refine own_S (mkF m 53 #[rv a, iv x1, iv y1] [(.int 1)]) (fun _ k => XS.goto X6.here hx rfl (pc0 := 49) (pc' := 53) rfl (hb hby d9_49) (by decide) (by decide) k) ?_
        exact own_retN X6 hx hlk (t := .boolean) hret (by simp) (hb hby d9_53) (by rw [e6]; exact ⟨(by rw [if_pos (Or.inr ⟨h2, h3⟩)]; rfl), N0, rfl⟩) (by decide) (by decide)
      · -- not oy < ox
        refine own_S (mkF m 52 #[rv a, iv x1, iv y1] []) (fun _ k => XS.ifYes X6.here hx rfl (pc0 := 45) (pc' := 52) rfl (hb hby d9_45) rfl ((if0 _ _).trans (flt (fun q => h3 ((lw_gt ox oy).mp q))).2.2.2) (by decide) (by decide) k) ?_
        refine own_S (mkF m 53 #[rv a, iv x1, iv y1] [(.int 0)]) (fun _ k => XS.iconst X6.here hx rfl (hb hby d9_52) k) ?_
        exact own_retN X6 hx hlk (t := .boolean) hret (by simp) (hb hby d9_53) (by rw [e6]; exact ⟨(by rw [if_neg (fun q => q.elim h1 (fun q => h3 q.2))]; rfl), N0, rfl⟩) (by decide) (by decide)
    · -- not dx = dy
      refine own_S (mkF m 52 #[rv a, iv x1, iv y1] []) (fun _ k => XS.ifYes X4.here hx rfl (pc0 := 29) (pc' := 52) rfl (hb hby d9_29) rfl ((if0 _ _).trans (feq (fun q => h2 ((lw_eq dx dy).mp q))).2) (by decide) (by decide) k) ?_
      refine own_S (mkF m 53 #[rv a, iv x1, iv y1] [(.int 0)]) (fun _ k => XS.iconst X4.here hx rfl (hb hby d9_52) k) ?_
      exact own_retN X4 hx hlk (t := .boolean) hret (by simp) (hb hby d9_53) (by rw [e4]; exact ⟨(by rw [if_neg (fun q => q.elim h1 (fun q => h2 q.1))]; rfl), N0, rfl⟩) (by decide) (by decide)
theorem d7_0 : decode prog_8_method_9_code 0 = .ok (.aload_n 0, 1) := by decide +kernel
theorem d7_1 : decode prog_8_method_9_code 1 = .ok (.getfield 13, 3) := by decide +kernel
theorem d7_4 : decode prog_8_method_9_code 4 = .ok (.iload_n 1, 1) := by decide +kernel
theorem d7_5 : decode prog_8_method_9_code 5 = .ok (.iaload, 1) := by decide +kernel
theorem d7_6 : decode prog_8_method_9_code 6 = .ok (.istore_n 2, 1) := by decide +kernel
theorem d7_7 : decode prog_8_method_9_code 7 = .ok (.iload_n 1, 1) := by decide +kernel
theorem d7_8 : decode prog_8_method_9_code 8 = .ok (.ifCond .le 45, 3) := by decide +kernel
theorem d7_53 : decode prog_8_method_9_code 53 = .ok (.aload_n 0, 1) := by decide +kernel
theorem d7_54 : decode prog_8_method_9_code 54 = .ok (.iload_n 2, 1) := by decide +kernel
theorem d7_55 : decode prog_8_method_9_code 55 = .ok (.iload_n 1, 1) := by decide +kernel
theorem d7_56 : decode prog_8_method_9_code 56 = .ok (.invokevirtual 41, 3) := by decide +kernel
theorem d7_59 : decode prog_8_method_9_code 59 = .ok (.return_, 1) := by decide +kernel
theorem own_pd__II_V : parseMethodDescriptor "(II)V" = some ⟨[.int, .int], none⟩ := by decide +kernel
theorem own_pf_su0 : plainFor own_y5 = true := by first | exact plainFor_of_name (show plainName "com/example/stickler/stickler/assignment/NodeQueue" = true by first | (simp [plainName, overriddenIn]; done) | decide +kernel) | decide +kernel
theorem own_ef_su0 (m : MethodId) (y0 : Addr) (y1 : Int32) : entryFrame m #[(.ref y0), (.int y1)] 3 = mkF m 0 #[rv y0, iv y1, .unset] [] := by first | (simp [entryFrame, mkF, argsToLocals, Value.category]; done) | rfl
def own_Qsu0 (Z : State) (a : Addr) (ha : Addr) (pa : Addr) (kh : ClassId) (kp : ClassId) (H : List Value) (P : List Value) (nd : Int32) (h0 : Heap) (n0 : Nat) (v : Option Value) (h : Heap) (L : List Loc) : Prop := v = none ∧ Fr n0 L ∧ Keep h0 h [ha, pa] ∧ own_Ar Z h ha kh .int (H.set 0 (.int nd)) ∧ own_Ar Z h pa kp .int (P.set (nd).toNatClampNeg (.int (0 : Int32)))
set_option maxRecDepth 65536 in
set_option maxHeartbeats 40000000 in
theorem own_rmsu0 (l : Launch) (Z : State) (a0 : Array Value) (hw : ∀ d ∈ tables_1, d.before a0 Z = true) (ws : List Jvm.Cond) (a : Addr) (ha : Addr) (pa : Addr) (kh : ClassId) (kp : ClassId) (H : List Value) (P : List Value) (nd : Int32) (h0 : Heap) (n0 : Nat) (Z0 : n0 ≤ h0.size) (P0 : Exa Z h0 a "com/example/stickler/stickler/assignment/NodeQueue") (P1 : Fld Z h0 a "com/example/stickler/stickler/assignment/NodeQueue" "heap" "[I" (.ref ha)) (P2 : Fld Z h0 a "com/example/stickler/stickler/assignment/NodeQueue" "place" "[I" (.ref pa)) (P3 : own_Ar Z h0 ha kh .int H) (P4 : own_Ar Z h0 pa kp .int P) (G_ha : n0 ≤ ha) (G_pa : n0 ≤ pa) (NE_a_ha : a ≠ ha) (NE_a_pa : a ≠ pa) (NE_ha_pa : ha ≠ pa) (h0v : H[0]? = some (.int nd)) (hn0 : ¬ nd < (0 : Int32)) (hn1 : (nd).toNatClampNeg < P.length) :
    MetFree l own_y5 (head1 (Jvm.Cond.code own_y5 prog_8_method_9_code 3 none :: ws) ({ frames := 1, cells := 0, slots := 0, locals := 14 } : Room)) (fun az Uz => az = #[(.ref a), (.int 0)] ∧ Z.Warmed39 Uz.vm ∧ Uz.heap = h0) (fun _ _ _ _ _ => True) (fun _ U o U' => ∃ v L, o = .returned v ∧ own_Qsu0 Z a ha pa kh kp H P nd h0 n0 v U'.heap L ∧ FrameEnd U o U' L ({ frames := 1, cells := 0, slots := 0, locals := 14 } : Room).cells ({ frames := 1, cells := 0, slots := 0, locals := 14 } : Room).slots) := by
  refine MetFree.of_bodySF own_pf_su0 hisR ?_
  intro p e s m args below meth c s₁ Bd hml0 hP hK
  obtain ⟨rfl, hZ, hh⟩ := hP
  have hx := Bd.exec
  have hby := Bd.bytes
  have hml : c.maxLocals = 3 := hml0
  have hown : s.vm.findClass "com/example/stickler/stickler/assignment/NodeQueue" = some m.cls := findClass_of_methodNamed Bd.named
  have hnm := (name_of_methodNamed Bd.named Bd.method).1
  have hlk : meth.locks = false := BodyLoose.notSynchronized Bd
  have hret := Bd.returns
  have X0 : Stand p l e ({ frames := 1, cells := 0, slots := 0, locals := 14 } : Room) s m #[(.ref a), (.int 0)] below meth c s₁ [] 0 0 := Stand.of_body Bd
  have e0 : s₁.heap = h0 := by rw [← hh, Bd.state]; rfl
  have N0 := Fr.nil n0
  show own_E p e below (own_K s (own_Qsu0 Z a ha pa kh kp H P nd h0 n0) ({ frames := 1, cells := 0, slots := 0, locals := 14 } : Room).cells ({ frames := 1, cells := 0, slots := 0, locals := 14 } : Room).slots) s₁ (entryFrame m #[(.ref a), (.int 0)] 3)
  refine own_S (mkF m 0 #[rv a, .val (.int 0), .unset] []) (fun _ k => castTop (own_ef_su0 m (a) ((0 : Int32))) k) ?_
  refine own_S (mkF m 1 #[rv a, .val (.int 0), .unset] [(.ref a)]) (fun _ k => XS.aloadN X0.here hx rfl (hb hby d7_0) rfl rfl k) ?_
  obtain ⟨T1, X1, e1, st1⟩ := getF X0 hx hZ hown (host := "") (Or.inl (own_g hw (i := 13) rfl)) Via.refl e0 P1 (g := (mkF m 1 #[rv a, .val (.int 0), .unset] [(.ref a)])) rfl rfl (hb hby d7_1)
  refine own_S (mkF m 4 #[rv a, .val (.int 0), .unset] [(.ref ha)]) st1 ?_
  refine own_S (mkF m 5 #[rv a, .val (.int 0), .unset] [(.int 0), (.ref ha)]) (fun _ k => XS.iloadN X1.here hx rfl (hb hby d7_4) rfl k) ?_
  refine own_S (mkF m 6 #[rv a, .val (.int 0), .unset] [(.int nd)]) (fun _ k => own_ldI (j := (0 : Int32)) (v := (.int nd)) X1 hx hZ e1 P3 (by decide) h0v (g := (mkF m 5 #[rv a, .val (.int 0), .unset] [(.int 0), (.ref ha)])) rfl rfl (hb hby d7_5) _ k) ?_
  refine own_S (mkF m 7 #[rv a, .val (.int 0), iv nd] []) (fun _ k => XS.istoreN X1.here hx rfl (hb hby d7_6) rfl (l' := #[rv a, .val (.int 0), iv nd]) rfl k) ?_
  refine own_S (mkF m 8 #[rv a, .val (.int 0), iv nd] [(.int 0)]) (fun _ k => XS.iloadN X1.here hx rfl (hb hby d7_7) rfl k) ?_
  have hc2 : ¬ ((0 : Int32) < (0 : Int32)) := by decide
  refine own_S (mkF m 53 #[rv a, .val (.int 0), iv nd] []) (fun _ k => XS.ifYes X1.here hx rfl (pc0 := 8) (pc' := 53) rfl (hb hby d7_8) rfl ((if0 _ _).trans (flt hc2).2.2.2) (by decide) (by decide) k) ?_
  refine own_S (mkF m 54 #[rv a, .val (.int 0), iv nd] [(.ref a)]) (fun _ k => XS.aloadN X1.here hx rfl (hb hby d7_53) rfl rfl k) ?_
  refine own_S (mkF m 55 #[rv a, .val (.int 0), iv nd] [(.int nd), (.ref a)]) (fun _ k => XS.iloadN X1.here hx rfl (hb hby d7_54) rfl k) ?_
  refine own_S (mkF m 56 #[rv a, .val (.int 0), iv nd] [(.int 0), (.int nd), (.ref a)]) (fun _ k => XS.iloadN X1.here hx rfl (hb hby d7_55) rfl k) ?_
  obtain ⟨cq3, q3a, q3b⟩ := Exa.cell P0
  obtain ⟨_, _, ⟨T3, L3, k3, n3⟩, -, X3, ⟨Lc3, hQ3, l3, y3, z3⟩, st3⟩ := X1.privateBack hx (y := own_y3) hown (mvT hZ (own_g hw (i := 47) rfl)) (mvT hZ (own_g hw (i := 48) rfl)) (own_selP (mvT hZ (own_g hw (i := 2) rfl)) (Cond.privateMethod_at (mvP hZ (own_g hw (i := 49) rfl) (args := #[]))) (mvT hZ (own_g hw (i := 48) rfl)) (by decide)) (Cond.privateMethod_at (mvP hZ (own_g hw (i := 49) rfl) (args := #[]))) (mvT hZ (own_g hw (i := 50) rfl)) (by decide) (backOf (W := 0) (own_rmmt l Z a0 hw [] (a) (ha) (pa) (nd) ((0 : Int32)) (kh) (kp) (H) (P) h0 n0 Z0 P1 P2 P3 P4 G_ha G_pa NE_a_ha NE_a_pa NE_ha_pa (by decide) (own_lt_of h0v) hn0 hn1) hZ (own_g hw (i := 50) rfl) (own_g hw (i := 3) rfl) (by decide) (by decide)) (g := (mkF m 56 #[rv a, .val (.int 0), iv nd] [(.int 0), (.int nd), (.ref a)])) rfl (by rw [hml]; rfl) (Steps.refl _) (a := a) (by rw [e1]; exact q3a) q3b (argsL := [(.int nd), (.int 0)]) (rest := []) (lenOf own_pd__II_V rfl) rfl (by show 2 * 0 + _ ≤ _; exact Nat.le_of_eq rfl) (hb hby d7_56) (fun _ _ => ⟨rfl, e1, (by decide : 0 + 0 ≤ _), (by decide : 0 + 0 ≤ _)⟩)
  dsimp only [Pt.U, Pt.locs, Pt.cells, Pt.slots] at X3 l3 y3 z3 st3 hQ3
  subst l3 y3 z3
  obtain ⟨rfl, N3q, K3q, F4, F5⟩ := hQ3
  have N3 := Fr.app N0 N3q
  refine own_S (mkF m 59 #[rv a, .val (.int 0), iv nd] []) (fun _ k => st3.trans k) ?_
  have K3 : Keep h0 T3.heap [ha, pa] := (Keep.refl h0 [ha, pa]).trans K3q (allS (Or.inl (List.mem_of_getElem? (i := 0) rfl)) (allS (Or.inl (List.mem_of_getElem? (i := 1) rfl)) all0))
  have F6 := P0.keep K3q
  have F7 := P1.keep K3q (ninS NE_a_ha (ninS NE_a_pa nin0))
  have F8 := P2.keep K3q (ninS NE_a_ha (ninS NE_a_pa nin0))
  have Z3 : n0 ≤ T3.heap.size := Nat.le_trans Z0 K3q.1
  exact own_ret0 X3 hx hlk hret (hb hby d7_59) ⟨rfl, N3, K3, F4, F5⟩ (by decide) (by decide)
theorem d7_11 : decode prog_8_method_9_code 11 = .ok (.aload_n 0, 1) := by decide +kernel
theorem d7_12 : decode prog_8_method_9_code 12 = .ok (.iload_n 2, 1) := by decide +kernel
theorem d7_13 : decode prog_8_method_9_code 13 = .ok (.aload_n 0, 1) := by decide +kernel
theorem d7_14 : decode prog_8_method_9_code 14 = .ok (.getfield 13, 3) := by decide +kernel
theorem d7_17 : decode prog_8_method_9_code 17 = .ok (.iload_n 1, 1) := by decide +kernel
theorem d7_18 : decode prog_8_method_9_code 18 = .ok (.iconst 1, 1) := by decide +kernel
theorem d7_19 : decode prog_8_method_9_code 19 = .ok (.isub, 1) := by decide +kernel
theorem d7_20 : decode prog_8_method_9_code 20 = .ok (.iconst 2, 1) := by decide +kernel
theorem d7_21 : decode prog_8_method_9_code 21 = .ok (.idiv, 1) := by decide +kernel
theorem d7_22 : decode prog_8_method_9_code 22 = .ok (.iaload, 1) := by decide +kernel
theorem d7_23 : decode prog_8_method_9_code 23 = .ok (.invokevirtual 48, 3) := by decide +kernel
theorem d7_26 : decode prog_8_method_9_code 26 = .ok (.ifCond .eq 27, 3) := by decide +kernel
theorem d7_29 : decode prog_8_method_9_code 29 = .ok (.aload_n 0, 1) := by decide +kernel
theorem d7_30 : decode prog_8_method_9_code 30 = .ok (.aload_n 0, 1) := by decide +kernel
theorem d7_31 : decode prog_8_method_9_code 31 = .ok (.getfield 13, 3) := by decide +kernel
theorem d7_34 : decode prog_8_method_9_code 34 = .ok (.iload_n 1, 1) := by decide +kernel
theorem d7_35 : decode prog_8_method_9_code 35 = .ok (.iconst 1, 1) := by decide +kernel
theorem d7_36 : decode prog_8_method_9_code 36 = .ok (.isub, 1) := by decide +kernel
theorem d7_37 : decode prog_8_method_9_code 37 = .ok (.iconst 2, 1) := by decide +kernel
theorem d7_38 : decode prog_8_method_9_code 38 = .ok (.idiv, 1) := by decide +kernel
theorem d7_39 : decode prog_8_method_9_code 39 = .ok (.iaload, 1) := by decide +kernel
theorem d7_40 : decode prog_8_method_9_code 40 = .ok (.iload_n 1, 1) := by decide +kernel
theorem d7_41 : decode prog_8_method_9_code 41 = .ok (.invokevirtual 41, 3) := by decide +kernel
theorem d7_44 : decode prog_8_method_9_code 44 = .ok (.iload_n 1, 1) := by decide +kernel
theorem d7_45 : decode prog_8_method_9_code 45 = .ok (.iconst 1, 1) := by decide +kernel
theorem d7_46 : decode prog_8_method_9_code 46 = .ok (.isub, 1) := by decide +kernel
theorem d7_47 : decode prog_8_method_9_code 47 = .ok (.iconst 2, 1) := by decide +kernel
theorem d7_48 : decode prog_8_method_9_code 48 = .ok (.idiv, 1) := by decide +kernel
theorem d7_49 : decode prog_8_method_9_code 49 = .ok (.istore_n 1, 1) := by decide +kernel
theorem d7_50 : decode prog_8_method_9_code 50 = .ok (.goto (-43), 3) := by decide +kernel
theorem own_pd__II_Z : parseMethodDescriptor "(II)Z" = some ⟨[.int, .int], (some .boolean)⟩ := by decide +kernel
theorem own_pf_su1m : plainFor own_y5 = true := by first | exact plainFor_of_name (show plainName "com/example/stickler/stickler/assignment/NodeQueue" = true by first | (simp [plainName, overriddenIn]; done) | decide +kernel) | decide +kernel
theorem own_ef_su1m (m : MethodId) (y0 : Addr) (y1 : Int32) : entryFrame m #[(.ref y0), (.int y1)] 3 = mkF m 0 #[rv y0, iv y1, .unset] [] := by first | (simp [entryFrame, mkF, argsToLocals, Value.category]; done) | rfl
def own_Qsu1m (Z : State) (a : Addr) (da : Addr) (ha : Addr) (pa : Addr) (oa : Addr) (kd : ClassId) (kh : ClassId) (kp : ClassId) (ko : ClassId) (D : List Value) (H : List Value) (P : List Value) (O : List Value) (nd : Int32) (xx : Int32) (dn : Int64) (dx : Int64) (on : Int64) (ox : Int64) (h0 : Heap) (n0 : Nat) (v : Option Value) (h : Heap) (L : List Loc) : Prop := v = none ∧ Fr n0 L ∧ Keep h0 h [ha, pa] ∧ own_Ar Z h ha kh .int ((H.set 1 (.int xx)).set 0 (.int nd)) ∧ own_Ar Z h pa kp .int ((P.set (xx).toNatClampNeg (.int (1 : Int32))).set (nd).toNatClampNeg (.int (0 : Int32)))
set_option maxRecDepth 65536 in
set_option maxHeartbeats 40000000 in
theorem own_rmsu1m (l : Launch) (Z : State) (a0 : Array Value) (hw : ∀ d ∈ tables_1, d.before a0 Z = true) (ws : List Jvm.Cond) (a : Addr) (da : Addr) (ha : Addr) (pa : Addr) (oa : Addr) (kd : ClassId) (kh : ClassId) (kp : ClassId) (ko : ClassId) (D : List Value) (H : List Value) (P : List Value) (O : List Value) (nd : Int32) (xx : Int32) (dn : Int64) (dx : Int64) (on : Int64) (ox : Int64) (h0 : Heap) (n0 : Nat) (Z0 : n0 ≤ h0.size) (P0 : Exa Z h0 a "com/example/stickler/stickler/assignment/NodeQueue") (P1 : Fld Z h0 a "com/example/stickler/stickler/assignment/NodeQueue" "distance" "[J" (.ref da)) (P2 : Fld Z h0 a "com/example/stickler/stickler/assignment/NodeQueue" "heap" "[I" (.ref ha)) (P3 : Fld Z h0 a "com/example/stickler/stickler/assignment/NodeQueue" "place" "[I" (.ref pa)) (P4 : Fld Z h0 a "com/example/stickler/stickler/assignment/NodeQueue" "offered" "[J" (.ref oa)) (P5 : own_Ar Z h0 da kd .long D) (P6 : own_Ar Z h0 ha kh .int H) (P7 : own_Ar Z h0 pa kp .int P) (P8 : own_Ar Z h0 oa ko .long O) (G_ha : n0 ≤ ha) (G_pa : n0 ≤ pa) (NE_a_da : a ≠ da) (NE_a_ha : a ≠ ha) (NE_a_pa : a ≠ pa) (NE_a_oa : a ≠ oa) (NE_da_ha : da ≠ ha) (NE_da_pa : da ≠ pa) (NE_da_oa : da ≠ oa) (NE_ha_pa : ha ≠ pa) (NE_ha_oa : ha ≠ oa) (NE_pa_oa : pa ≠ oa) (h0v : H[0]? = some (.int xx)) (hiv : H[1]? = some (.int nd)) (hn0 : ¬ nd < (0 : Int32)) (hn1 : (nd).toNatClampNeg < P.length) (hx0 : ¬ xx < (0 : Int32)) (hx1 : (xx).toNatClampNeg < P.length) (hdx : D[(nd).toNatClampNeg]? = some (.long dn)) (hdy : D[(xx).toNatClampNeg]? = some (.long dx)) (hox : O[(nd).toNatClampNeg]? = some (.long on)) (hoy : O[(xx).toNatClampNeg]? = some (.long ox)) (hB : (dn < dx ∨ (dn = dx ∧ ox < on))) :
    MetFree l own_y5 (head1 (Jvm.Cond.code own_y5 prog_8_method_9_code 3 none :: ws) ({ frames := 1, cells := 0, slots := 0, locals := 14 } : Room)) (fun az Uz => az = #[(.ref a), (.int 1)] ∧ Z.Warmed39 Uz.vm ∧ Uz.heap = h0) (fun _ _ _ _ _ => True) (fun _ U o U' => ∃ v L, o = .returned v ∧ own_Qsu1m Z a da ha pa oa kd kh kp ko D H P O nd xx dn dx on ox h0 n0 v U'.heap L ∧ FrameEnd U o U' L ({ frames := 1, cells := 0, slots := 0, locals := 14 } : Room).cells ({ frames := 1, cells := 0, slots := 0, locals := 14 } : Room).slots) := by
  refine MetFree.of_bodySF own_pf_su1m hisR ?_
  intro p e s m args below meth c s₁ Bd hml0 hP hK
  obtain ⟨rfl, hZ, hh⟩ := hP
  have hx := Bd.exec
  have hby := Bd.bytes
  have hml : c.maxLocals = 3 := hml0
  have hown : s.vm.findClass "com/example/stickler/stickler/assignment/NodeQueue" = some m.cls := findClass_of_methodNamed Bd.named
  have hnm := (name_of_methodNamed Bd.named Bd.method).1
  have hlk : meth.locks = false := BodyLoose.notSynchronized Bd
  have hret := Bd.returns
  have X0 : Stand p l e ({ frames := 1, cells := 0, slots := 0, locals := 14 } : Room) s m #[(.ref a), (.int 1)] below meth c s₁ [] 0 0 := Stand.of_body Bd
  have e0 : s₁.heap = h0 := by rw [← hh, Bd.state]; rfl
  have N0 := Fr.nil n0
  show own_E p e below (own_K s (own_Qsu1m Z a da ha pa oa kd kh kp ko D H P O nd xx dn dx on ox h0 n0) ({ frames := 1, cells := 0, slots := 0, locals := 14 } : Room).cells ({ frames := 1, cells := 0, slots := 0, locals := 14 } : Room).slots) s₁ (entryFrame m #[(.ref a), (.int 1)] 3)
  refine own_S (mkF m 0 #[rv a, .val (.int 1), .unset] []) (fun _ k => castTop (own_ef_su1m m (a) ((1 : Int32))) k) ?_
  refine own_S (mkF m 1 #[rv a, .val (.int 1), .unset] [(.ref a)]) (fun _ k => XS.aloadN X0.here hx rfl (hb hby d7_0) rfl rfl k) ?_
  obtain ⟨T1, X1, e1, st1⟩ := getF X0 hx hZ hown (host := "") (Or.inl (own_g hw (i := 13) rfl)) Via.refl e0 P2 (g := (mkF m 1 #[rv a, .val (.int 1), .unset] [(.ref a)])) rfl rfl (hb hby d7_1)
  refine own_S (mkF m 4 #[rv a, .val (.int 1), .unset] [(.ref ha)]) st1 ?_
  refine own_S (mkF m 5 #[rv a, .val (.int 1), .unset] [(.int 1), (.ref ha)]) (fun _ k => XS.iloadN X1.here hx rfl (hb hby d7_4) rfl k) ?_
  refine own_S (mkF m 6 #[rv a, .val (.int 1), .unset] [(.int nd)]) (fun _ k => own_ldI (j := (1 : Int32)) (v := (.int nd)) X1 hx hZ e1 P6 (by decide) hiv (g := (mkF m 5 #[rv a, .val (.int 1), .unset] [(.int 1), (.ref ha)])) rfl rfl (hb hby d7_5) _ k) ?_
  refine own_S (mkF m 7 #[rv a, .val (.int 1), iv nd] []) (fun _ k => XS.istoreN X1.here hx rfl (hb hby d7_6) rfl (l' := #[rv a, .val (.int 1), iv nd]) rfl k) ?_
  refine own_S (mkF m 8 #[rv a, .val (.int 1), iv nd] [(.int 1)]) (fun _ k => XS.iloadN X1.here hx rfl (hb hby d7_7) rfl k) ?_
  have hc2 : (0 : Int32) < (1 : Int32) := by decide
  refine own_S (mkF m 11 #[rv a, .val (.int 1), iv nd] []) (fun _ k => XS.ifNo X1.here hx rfl (hb hby d7_8) rfl ((if0 _ _).trans (tlt hc2).2.2.2) k) ?_
  refine own_S (mkF m 12 #[rv a, .val (.int 1), iv nd] [(.ref a)]) (fun _ k => XS.aloadN X1.here hx rfl (hb hby d7_11) rfl rfl k) ?_
  refine own_S (mkF m 13 #[rv a, .val (.int 1), iv nd] [(.int nd), (.ref a)]) (fun _ k => XS.iloadN X1.here hx rfl (hb hby d7_12) rfl k) ?_
  refine own_S (mkF m 14 #[rv a, .val (.int 1), iv nd] [(.ref a), (.int nd), (.ref a)]) (fun _ k => XS.aloadN X1.here hx rfl (hb hby d7_13) rfl rfl k) ?_
  obtain ⟨T3, X3, e3, st3⟩ := getF X1 hx hZ hown (host := "") (Or.inl (own_g hw (i := 13) rfl)) Via.refl e1 P2 (g := (mkF m 14 #[rv a, .val (.int 1), iv nd] [(.ref a), (.int nd), (.ref a)])) rfl rfl (hb hby d7_14)
  refine own_S (mkF m 17 #[rv a, .val (.int 1), iv nd] [(.ref ha), (.int nd), (.ref a)]) st3 ?_
  refine own_S (mkF m 18 #[rv a, .val (.int 1), iv nd] [(.int 1), (.ref ha), (.int nd), (.ref a)]) (fun _ k => XS.iloadN X3.here hx rfl (hb hby d7_17) rfl k) ?_
  refine own_S (mkF m 19 #[rv a, .val (.int 1), iv nd] [(.int 1), (.int 1), (.ref ha), (.int nd), (.ref a)]) (fun _ k => XS.iconst X3.here hx rfl (hb hby d7_18) k) ?_
  refine own_S (mkF m 20 #[rv a, .val (.int 1), iv nd] [(.int 0), (.ref ha), (.int nd), (.ref a)]) (fun _ k => XS.isub X3.here hx rfl (hb hby d7_19) rfl k) ?_
  refine own_S (mkF m 21 #[rv a, .val (.int 1), iv nd] [(.int 2), (.int 0), (.ref ha), (.int nd), (.ref a)]) (fun _ k => XS.iconst X3.here hx rfl (hb hby d7_20) k) ?_
  refine own_S (mkF m 22 #[rv a, .val (.int 1), iv nd] [(.int 0), (.ref ha), (.int nd), (.ref a)]) (fun _ k => XS.idiv X3.here hx rfl (hb hby d7_21) rfl (by decide) k) ?_
  refine own_S (mkF m 23 #[rv a, .val (.int 1), iv nd] [(.int xx), (.int nd), (.ref a)]) (fun _ k => own_ldI (j := (0 : Int32)) (v := (.int xx)) X3 hx hZ e3 P6 (by decide) h0v (g := (mkF m 22 #[rv a, .val (.int 1), iv nd] [(.int 0), (.ref ha), (.int nd), (.ref a)])) rfl rfl (hb hby d7_22) _ k) ?_
  obtain ⟨cq4, q4a, q4b⟩ := Exa.cell P0
  obtain ⟨_, _, ⟨T4, L4, k4, n4⟩, -, X4, ⟨Lc4, hQ4, l4, y4, z4⟩, st4⟩ := X3.privateBack hx (y := own_y4) hown (mvT hZ (own_g hw (i := 51) rfl)) (mvT hZ (own_g hw (i := 52) rfl)) (own_selP (mvT hZ (own_g hw (i := 2) rfl)) (Cond.privateMethod_at (mvP hZ (own_g hw (i := 53) rfl) (args := #[]))) (mvT hZ (own_g hw (i := 52) rfl)) (by decide)) (Cond.privateMethod_at (mvP hZ (own_g hw (i := 53) rfl) (args := #[]))) (mvT hZ (own_g hw (i := 54) rfl)) (by decide) (backOf (W := 0) (own_rmbf l Z a0 hw [] (a) (da) (oa) (nd) (xx) (kd) (ko) (D) (O) (dn) (dx) (on) (ox) h0 n0 Z0 P1 P4 P5 P8 hn0 hx0 hdx hdy hox hoy) hZ (own_g hw (i := 54) rfl) (own_g hw (i := 3) rfl) (by decide) (by decide)) (g := (mkF m 23 #[rv a, .val (.int 1), iv nd] [(.int xx), (.int nd), (.ref a)])) rfl (by rw [hml]; rfl) (Steps.refl _) (a := a) (by rw [e3]; exact q4a) q4b (argsL := [(.int nd), (.int xx)]) (rest := []) (lenOf own_pd__II_Z rfl) rfl (by show 2 * 0 + _ ≤ _; exact Nat.le_of_eq rfl) (hb hby d7_23) (fun _ _ => ⟨rfl, e3, (by decide : 0 + 0 ≤ _), (by decide : 0 + 0 ≤ _)⟩)
  dsimp only [Pt.U, Pt.locs, Pt.cells, Pt.slots] at X4 l4 y4 z4 st4 hQ4
  subst l4 y4 z4
  obtain ⟨rfl, N4q, e4⟩ := hQ4
  have N4 := Fr.app N0 N4q
  refine own_S (mkF m 26 #[rv a, .val (.int 1), iv nd] [(.int (if (dn < dx ∨ (dn = dx ∧ ox < on)) then (1 : Int32) else (0 : Int32)))]) (fun _ k => st4.trans k) ?_
  obtain ⟨bb, h_bb⟩ : ∃ z : Int32, z = (if (dn < dx ∨ (dn = dx ∧ ox < on)) then (1 : Int32) else (0 : Int32)) := ⟨_, rfl⟩
  refine own_S (T' := T4) (mkF m 26 #[rv a, .val (.int 1), iv nd] [(.int bb)]) (fun _ k => by subst h_bb; exact k) ?_
  have hc5 : ¬ (bb = (0 : Int32)) := (by rw [h_bb, if_pos hB]; decide)
  refine own_S (mkF m 29 #[rv a, .val (.int 1), iv nd] []) (fun _ k => XS.ifNo X4.here hx rfl (hb hby d7_26) rfl ((if0 _ _).trans (feq hc5).1) k) ?_
  refine own_S (mkF m 30 #[rv a, .val (.int 1), iv nd] [(.ref a)]) (fun _ k => XS.aloadN X4.here hx rfl (hb hby d7_29) rfl rfl k) ?_
  refine own_S (mkF m 31 #[rv a, .val (.int 1), iv nd] [(.ref a), (.ref a)]) (fun _ k => XS.aloadN X4.here hx rfl (hb hby d7_30) rfl rfl k) ?_
  obtain ⟨T6, X6, e6, st6⟩ := getF X4 hx hZ hown (host := "") (Or.inl (own_g hw (i := 13) rfl)) Via.refl e4 P2 (g := (mkF m 31 #[rv a, .val (.int 1), iv nd] [(.ref a), (.ref a)])) rfl rfl (hb hby d7_31)
  refine own_S (mkF m 34 #[rv a, .val (.int 1), iv nd] [(.ref ha), (.ref a)]) st6 ?_
  refine own_S (mkF m 35 #[rv a, .val (.int 1), iv nd] [(.int 1), (.ref ha), (.ref a)]) (fun _ k => XS.iloadN X6.here hx rfl (hb hby d7_34) rfl k) ?_
  refine own_S (mkF m 36 #[rv a, .val (.int 1), iv nd] [(.int 1), (.int 1), (.ref ha), (.ref a)]) (fun _ k => XS.iconst X6.here hx rfl (hb hby d7_35) k) ?_
  refine own_S (mkF m 37 #[rv a, .val (.int 1), iv nd] [(.int 0), (.ref ha), (.ref a)]) (fun _ k => XS.isub X6.here hx rfl (hb hby d7_36) rfl k) ?_
  refine own_S (mkF m 38 #[rv a, .val (.int 1), iv nd] [(.int 2), (.int 0), (.ref ha), (.ref a)]) (fun _ k => XS.iconst X6.here hx rfl (hb hby d7_37) k) ?_
  refine own_S (mkF m 39 #[rv a, .val (.int 1), iv nd] [(.int 0), (.ref ha), (.ref a)]) (fun _ k => XS.idiv X6.here hx rfl (hb hby d7_38) rfl (by decide) k) ?_
  refine own_S (mkF m 40 #[rv a, .val (.int 1), iv nd] [(.int xx), (.ref a)]) (fun _ k => own_ldI (j := (0 : Int32)) (v := (.int xx)) X6 hx hZ e6 P6 (by decide) h0v (g := (mkF m 39 #[rv a, .val (.int 1), iv nd] [(.int 0), (.ref ha), (.ref a)])) rfl rfl (hb hby d7_39) _ k) ?_
  refine own_S (mkF m 41 #[rv a, .val (.int 1), iv nd] [(.int 1), (.int xx), (.ref a)]) (fun _ k => XS.iloadN X6.here hx rfl (hb hby d7_40) rfl k) ?_
  obtain ⟨cq7, q7a, q7b⟩ := Exa.cell P0
  obtain ⟨_, _, ⟨T7, L7, k7, n7⟩, -, X7, ⟨Lc7, hQ7, l7, y7, z7⟩, st7⟩ := X6.privateBack hx (y := own_y3) hown (mvT hZ (own_g hw (i := 47) rfl)) (mvT hZ (own_g hw (i := 48) rfl)) (own_selP (mvT hZ (own_g hw (i := 2) rfl)) (Cond.privateMethod_at (mvP hZ (own_g hw (i := 49) rfl) (args := #[]))) (mvT hZ (own_g hw (i := 48) rfl)) (by decide)) (Cond.privateMethod_at (mvP hZ (own_g hw (i := 49) rfl) (args := #[]))) (mvT hZ (own_g hw (i := 50) rfl)) (by decide) (backOf (W := 0) (own_rmmt l Z a0 hw [] (a) (ha) (pa) (xx) ((1 : Int32)) (kh) (kp) (H) (P) h0 n0 Z0 P2 P3 P6 P7 G_ha G_pa NE_a_ha NE_a_pa NE_ha_pa (by decide) (own_lt_of hiv) hx0 hx1) hZ (own_g hw (i := 50) rfl) (own_g hw (i := 3) rfl) (by decide) (by decide)) (g := (mkF m 41 #[rv a, .val (.int 1), iv nd] [(.int 1), (.int xx), (.ref a)])) rfl (by rw [hml]; rfl) (Steps.refl _) (a := a) (by rw [e6]; exact q7a) q7b (argsL := [(.int xx), (.int 1)]) (rest := []) (lenOf own_pd__II_V rfl) rfl (by show 2 * 0 + _ ≤ _; exact Nat.le_of_eq rfl) (hb hby d7_41) (fun _ _ => ⟨rfl, e6, (by decide : 0 + 0 ≤ _), (by decide : 0 + 0 ≤ _)⟩)
  dsimp only [Pt.U, Pt.locs, Pt.cells, Pt.slots] at X7 l7 y7 z7 st7 hQ7
  subst l7 y7 z7
  obtain ⟨rfl, N7q, K7q, F8, F9⟩ := hQ7
  have N7 := Fr.app N4 N7q
  refine own_S (mkF m 44 #[rv a, .val (.int 1), iv nd] []) (fun _ k => st7.trans k) ?_
  have K7 : Keep h0 T7.heap [ha, pa] := (Keep.refl h0 [ha, pa]).trans K7q (allS (Or.inl (List.mem_of_getElem? (i := 0) rfl)) (allS (Or.inl (List.mem_of_getElem? (i := 1) rfl)) all0))
  have F10 := P0.keep K7q
  have F11 := P1.keep K7q (ninS NE_a_ha (ninS NE_a_pa nin0))
  have F12 := P2.keep K7q (ninS NE_a_ha (ninS NE_a_pa nin0))
  have F13 := P3.keep K7q (ninS NE_a_ha (ninS NE_a_pa nin0))
  have F14 := P4.keep K7q (ninS NE_a_ha (ninS NE_a_pa nin0))
  have F15 := P5.keep K7q (ninS NE_da_ha (ninS NE_da_pa nin0))
  have F16 := P8.keep K7q (ninS (Ne.symm NE_ha_oa) (ninS (Ne.symm NE_pa_oa) nin0))
  have Z7 : n0 ≤ T7.heap.size := Nat.le_trans Z0 K7q.1
  refine own_S (mkF m 45 #[rv a, .val (.int 1), iv nd] [(.int 1)]) (fun _ k => XS.iloadN X7.here hx rfl (hb hby d7_44) rfl k) ?_
  refine own_S (mkF m 46 #[rv a, .val (.int 1), iv nd] [(.int 1), (.int 1)]) (fun _ k => XS.iconst X7.here hx rfl (hb hby d7_45) k) ?_
  refine own_S (mkF m 47 #[rv a, .val (.int 1), iv nd] [(.int 0)]) (fun _ k => XS.isub X7.here hx rfl (hb hby d7_46) rfl k) ?_
  refine own_S (mkF m 48 #[rv a, .val (.int 1), iv nd] [(.int 2), (.int 0)]) (fun _ k => XS.iconst X7.here hx rfl (hb hby d7_47) k) ?_
  refine own_S (mkF m 49 #[rv a, .val (.int 1), iv nd] [(.int 0)]) (fun _ k => XS.idiv X7.here hx rfl (hb hby d7_48) rfl (by decide) k) ?_
  refine own_S (mkF m 50 #[rv a, .val (.int 0), iv nd] []) (fun _ k => XS.istoreN X7.here hx rfl (hb hby d7_49) rfl (l' := #[rv a, .val (.int 0), iv nd]) rfl k) ?_
  refine own_S (mkF m 7 #[rv a, .val (.int 0), iv nd] []) (fun _ k => XS.goto X7.here hx rfl (pc0 := 50) (pc' := 7) rfl (hb hby d7_50) (by decide) (by decide) k) ?_
  refine own_S (mkF m 8 #[rv a, .val (.int 0), iv nd] [(.int 0)]) (fun _ k => XS.iloadN X7.here hx rfl (hb hby d7_7) rfl k) ?_
  have hc17 : ¬ ((0 : Int32) < (0 : Int32)) := by decide
  refine own_S (mkF m 53 #[rv a, .val (.int 0), iv nd] []) (fun _ k => XS.ifYes X7.here hx rfl (pc0 := 8) (pc' := 53) rfl (hb hby d7_8) rfl ((if0 _ _).trans (flt hc17).2.2.2) (by decide) (by decide) k) ?_
  refine own_S (mkF m 54 #[rv a, .val (.int 0), iv nd] [(.ref a)]) (fun _ k => XS.aloadN X7.here hx rfl (hb hby d7_53) rfl rfl k) ?_
  refine own_S (mkF m 55 #[rv a, .val (.int 0), iv nd] [(.int nd), (.ref a)]) (fun _ k => XS.iloadN X7.here hx rfl (hb hby d7_54) rfl k) ?_
  refine own_S (mkF m 56 #[rv a, .val (.int 0), iv nd] [(.int 0), (.int nd), (.ref a)]) (fun _ k => XS.iloadN X7.here hx rfl (hb hby d7_55) rfl k) ?_
  obtain ⟨cq18, q18a, q18b⟩ := Exa.cell F10
  obtain ⟨_, _, ⟨T18, L18, k18, n18⟩, -, X18, ⟨Lc18, hQ18, l18, y18, z18⟩, st18⟩ := X7.privateBack hx (y := own_y3) hown (mvT hZ (own_g hw (i := 47) rfl)) (mvT hZ (own_g hw (i := 48) rfl)) (own_selP (mvT hZ (own_g hw (i := 2) rfl)) (Cond.privateMethod_at (mvP hZ (own_g hw (i := 49) rfl) (args := #[]))) (mvT hZ (own_g hw (i := 48) rfl)) (by decide)) (Cond.privateMethod_at (mvP hZ (own_g hw (i := 49) rfl) (args := #[]))) (mvT hZ (own_g hw (i := 50) rfl)) (by decide) (backOf (W := 0) (own_rmmt l Z a0 hw [] (a) (ha) (pa) (nd) ((0 : Int32)) (kh) (kp) ((H.set ((1 : Int32)).toNatClampNeg (.int xx))) ((P.set (xx).toNatClampNeg (.int (1 : Int32)))) T7.heap n0 Z7 F12 F13 F8 F9 G_ha G_pa NE_a_ha NE_a_pa NE_ha_pa (by decide) (by rw [List.length_set]; exact own_lt_of h0v) hn0 (by rw [List.length_set]; exact hn1)) hZ (own_g hw (i := 50) rfl) (own_g hw (i := 3) rfl) (by decide) (by decide)) (g := (mkF m 56 #[rv a, .val (.int 0), iv nd] [(.int 0), (.int nd), (.ref a)])) rfl (by rw [hml]; rfl) (Steps.refl _) (a := a) q18a q18b (argsL := [(.int nd), (.int 0)]) (rest := []) (lenOf own_pd__II_V rfl) rfl (by show 2 * 0 + _ ≤ _; exact Nat.le_of_eq rfl) (hb hby d7_56) (fun _ _ => ⟨rfl, rfl, (by decide : 0 + 0 ≤ _), (by decide : 0 + 0 ≤ _)⟩)
  dsimp only [Pt.U, Pt.locs, Pt.cells, Pt.slots] at X18 l18 y18 z18 st18 hQ18
  subst l18 y18 z18
  obtain ⟨rfl, N18q, K18q, F19, F20⟩ := hQ18
  have N18 := Fr.app N7 N18q
  refine own_S (mkF m 59 #[rv a, .val (.int 0), iv nd] []) (fun _ k => st18.trans k) ?_
  have K18 : Keep h0 T18.heap [ha, pa] := K7.trans K18q (allS (Or.inl (List.mem_of_getElem? (i := 0) rfl)) (allS (Or.inl (List.mem_of_getElem? (i := 1) rfl)) all0))
  have F21 := F10.keep K18q
  have F22 := F11.keep K18q (ninS NE_a_ha (ninS NE_a_pa nin0))
  have F23 := F12.keep K18q (ninS NE_a_ha (ninS NE_a_pa nin0))
  have F24 := F13.keep K18q (ninS NE_a_ha (ninS NE_a_pa nin0))
  have F25 := F14.keep K18q (ninS NE_a_ha (ninS NE_a_pa nin0))
  have F26 := F15.keep K18q (ninS NE_da_ha (ninS NE_da_pa nin0))
  have F27 := F16.keep K18q (ninS (Ne.symm NE_ha_oa) (ninS (Ne.symm NE_pa_oa) nin0))
  have Z18 : n0 ≤ T18.heap.size := Nat.le_trans Z7 K18q.1
  exact own_ret0 X18 hx hlk hret (hb hby d7_59) ⟨rfl, N18, K18, F19, F20⟩ (by decide) (by decide)
theorem own_pf_su1n : plainFor own_y5 = true := by first | exact plainFor_of_name (show plainName "com/example/stickler/stickler/assignment/NodeQueue" = true by first | (simp [plainName, overriddenIn]; done) | decide +kernel) | decide +kernel
theorem own_ef_su1n (m : MethodId) (y0 : Addr) (y1 : Int32) : entryFrame m #[(.ref y0), (.int y1)] 3 = mkF m 0 #[rv y0, iv y1, .unset] [] := by first | (simp [entryFrame, mkF, argsToLocals, Value.category]; done) | rfl
def own_Qsu1n (Z : State) (a : Addr) (da : Addr) (ha : Addr) (pa : Addr) (oa : Addr) (kd : ClassId) (kh : ClassId) (kp : ClassId) (ko : ClassId) (D : List Value) (H : List Value) (P : List Value) (O : List Value) (nd : Int32) (xx : Int32) (dn : Int64) (dx : Int64) (on : Int64) (ox : Int64) (h0 : Heap) (n0 : Nat) (v : Option Value) (h : Heap) (L : List Loc) : Prop := v = none ∧ Fr n0 L ∧ Keep h0 h [ha, pa] ∧ own_Ar Z h ha kh .int (H.set 1 (.int nd)) ∧ own_Ar Z h pa kp .int (P.set (nd).toNatClampNeg (.int (1 : Int32)))
set_option maxRecDepth 65536 in
set_option maxHeartbeats 40000000 in
theorem own_rmsu1n (l : Launch) (Z : State) (a0 : Array Value) (hw : ∀ d ∈ tables_1, d.before a0 Z = true) (ws : List Jvm.Cond) (a : Addr) (da : Addr) (ha : Addr) (pa : Addr) (oa : Addr) (kd : ClassId) (kh : ClassId) (kp : ClassId) (ko : ClassId) (D : List Value) (H : List Value) (P : List Value) (O : List Value) (nd : Int32) (xx : Int32) (dn : Int64) (dx : Int64) (on : Int64) (ox : Int64) (h0 : Heap) (n0 : Nat) (Z0 : n0 ≤ h0.size) (P0 : Exa Z h0 a "com/example/stickler/stickler/assignment/NodeQueue") (P1 : Fld Z h0 a "com/example/stickler/stickler/assignment/NodeQueue" "distance" "[J" (.ref da)) (P2 : Fld Z h0 a "com/example/stickler/stickler/assignment/NodeQueue" "heap" "[I" (.ref ha)) (P3 : Fld Z h0 a "com/example/stickler/stickler/assignment/NodeQueue" "place" "[I" (.ref pa)) (P4 : Fld Z h0 a "com/example/stickler/stickler/assignment/NodeQueue" "offered" "[J" (.ref oa)) (P5 : own_Ar Z h0 da kd .long D) (P6 : own_Ar Z h0 ha kh .int H) (P7 : own_Ar Z h0 pa kp .int P) (P8 : own_Ar Z h0 oa ko .long O) (G_ha : n0 ≤ ha) (G_pa : n0 ≤ pa) (NE_a_da : a ≠ da) (NE_a_ha : a ≠ ha) (NE_a_pa : a ≠ pa) (NE_a_oa : a ≠ oa) (NE_da_ha : da ≠ ha) (NE_da_pa : da ≠ pa) (NE_da_oa : da ≠ oa) (NE_ha_pa : ha ≠ pa) (NE_ha_oa : ha ≠ oa) (NE_pa_oa : pa ≠ oa) (h0v : H[0]? = some (.int xx)) (hiv : H[1]? = some (.int nd)) (hn0 : ¬ nd < (0 : Int32)) (hn1 : (nd).toNatClampNeg < P.length) (hx0 : ¬ xx < (0 : Int32)) (hx1 : (xx).toNatClampNeg < P.length) (hdx : D[(nd).toNatClampNeg]? = some (.long dn)) (hdy : D[(xx).toNatClampNeg]? = some (.long dx)) (hox : O[(nd).toNatClampNeg]? = some (.long on)) (hoy : O[(xx).toNatClampNeg]? = some (.long ox)) (hB : ¬ (dn < dx ∨ (dn = dx ∧ ox < on))) :
    MetFree l own_y5 (head1 (Jvm.Cond.code own_y5 prog_8_method_9_code 3 none :: ws) ({ frames := 1, cells := 0, slots := 0, locals := 14 } : Room)) (fun az Uz => az = #[(.ref a), (.int 1)] ∧ Z.Warmed39 Uz.vm ∧ Uz.heap = h0) (fun _ _ _ _ _ => True) (fun _ U o U' => ∃ v L, o = .returned v ∧ own_Qsu1n Z a da ha pa oa kd kh kp ko D H P O nd xx dn dx on ox h0 n0 v U'.heap L ∧ FrameEnd U o U' L ({ frames := 1, cells := 0, slots := 0, locals := 14 } : Room).cells ({ frames := 1, cells := 0, slots := 0, locals := 14 } : Room).slots) := by
  refine MetFree.of_bodySF own_pf_su1n hisR ?_
  intro p e s m args below meth c s₁ Bd hml0 hP hK
  obtain ⟨rfl, hZ, hh⟩ := hP
  have hx := Bd.exec
  have hby := Bd.bytes
  have hml : c.maxLocals = 3 := hml0
  have hown : s.vm.findClass "com/example/stickler/stickler/assignment/NodeQueue" = some m.cls := findClass_of_methodNamed Bd.named
  have hnm := (name_of_methodNamed Bd.named Bd.method).1
  have hlk : meth.locks = false := BodyLoose.notSynchronized Bd
  have hret := Bd.returns
  have X0 : Stand p l e ({ frames := 1, cells := 0, slots := 0, locals := 14 } : Room) s m #[(.ref a), (.int 1)] below meth c s₁ [] 0 0 := Stand.of_body Bd
  have e0 : s₁.heap = h0 := by rw [← hh, Bd.state]; rfl
  have N0 := Fr.nil n0
  show own_E p e below (own_K s (own_Qsu1n Z a da ha pa oa kd kh kp ko D H P O nd xx dn dx on ox h0 n0) ({ frames := 1, cells := 0, slots := 0, locals := 14 } : Room).cells ({ frames := 1, cells := 0, slots := 0, locals := 14 } : Room).slots) s₁ (entryFrame m #[(.ref a), (.int 1)] 3)
  refine own_S (mkF m 0 #[rv a, .val (.int 1), .unset] []) (fun _ k => castTop (own_ef_su1n m (a) ((1 : Int32))) k) ?_
  refine own_S (mkF m 1 #[rv a, .val (.int 1), .unset] [(.ref a)]) (fun _ k => XS.aloadN X0.here hx rfl (hb hby d7_0) rfl rfl k) ?_
  obtain ⟨T1, X1, e1, st1⟩ := getF X0 hx hZ hown (host := "") (Or.inl (own_g hw (i := 13) rfl)) Via.refl e0 P2 (g := (mkF m 1 #[rv a, .val (.int 1), .unset] [(.ref a)])) rfl rfl (hb hby d7_1)
  refine own_S (mkF m 4 #[rv a, .val (.int 1), .unset] [(.ref ha)]) st1 ?_
  refine own_S (mkF m 5 #[rv a, .val (.int 1), .unset] [(.int 1), (.ref ha)]) (fun _ k => XS.iloadN X1.here hx rfl (hb hby d7_4) rfl k) ?_
  refine own_S (mkF m 6 #[rv a, .val (.int 1), .unset] [(.int nd)]) (fun _ k => own_ldI (j := (1 : Int32)) (v := (.int nd)) X1 hx hZ e1 P6 (by decide) hiv (g := (mkF m 5 #[rv a, .val (.int 1), .unset] [(.int 1), (.ref ha)])) rfl rfl (hb hby d7_5) _ k) ?_
  refine own_S (mkF m 7 #[rv a, .val (.int 1), iv nd] []) (fun _ k => XS.istoreN X1.here hx rfl (hb hby d7_6) rfl (l' := #[rv a, .val (.int 1), iv nd]) rfl k) ?_
  refine own_S (mkF m 8 #[rv a, .val (.int 1), iv nd] [(.int 1)]) (fun _ k => XS.iloadN X1.here hx rfl (hb hby d7_7) rfl k) ?_
  have hc2 : (0 : Int32) < (1 : Int32) := by decide
  refine own_S (mkF m 11 #[rv a, .val (.int 1), iv nd] []) (fun _ k => XS.ifNo X1.here hx rfl (hb hby d7_8) rfl ((if0 _ _).trans (tlt hc2).2.2.2) k) ?_
  refine own_S (mkF m 12 #[rv a, .val (.int 1), iv nd] [(.ref a)]) (fun _ k => XS.aloadN X1.here hx rfl (hb hby d7_11) rfl rfl k) ?_
  refine own_S (mkF m 13 #[rv a, .val (.int 1), iv nd] [(.int nd), (.ref a)]) (fun _ k => XS.iloadN X1.here hx rfl (hb hby d7_12) rfl k) ?_
  refine own_S (mkF m 14 #[rv a, .val (.int 1), iv nd] [(.ref a), (.int nd), (.ref a)]) (fun _ k => XS.aloadN X1.here hx rfl (hb hby d7_13) rfl rfl k) ?_
  obtain ⟨T3, X3, e3, st3⟩ := getF X1 hx hZ hown (host := "") (Or.inl (own_g hw (i := 13) rfl)) Via.refl e1 P2 (g := (mkF m 14 #[rv a, .val (.int 1), iv nd] [(.ref a), (.int nd), (.ref a)])) rfl rfl (hb hby d7_14)
  refine own_S (mkF m 17 #[rv a, .val (.int 1), iv nd] [(.ref ha), (.int nd), (.ref a)]) st3 ?_
  refine own_S (mkF m 18 #[rv a, .val (.int 1), iv nd] [(.int 1), (.ref ha), (.int nd), (.ref a)]) (fun _ k => XS.iloadN X3.here hx rfl (hb hby d7_17) rfl k) ?_
  refine own_S (mkF m 19 #[rv a, .val (.int 1), iv nd] [(.int 1), (.int 1), (.ref ha), (.int nd), (.ref a)]) (fun _ k => XS.iconst X3.here hx rfl (hb hby d7_18) k) ?_
  refine own_S (mkF m 20 #[rv a, .val (.int 1), iv nd] [(.int 0), (.ref ha), (.int nd), (.ref a)]) (fun _ k => XS.isub X3.here hx rfl (hb hby d7_19) rfl k) ?_
  refine own_S (mkF m 21 #[rv a, .val (.int 1), iv nd] [(.int 2), (.int 0), (.ref ha), (.int nd), (.ref a)]) (fun _ k => XS.iconst X3.here hx rfl (hb hby d7_20) k) ?_
  refine own_S (mkF m 22 #[rv a, .val (.int 1), iv nd] [(.int 0), (.ref ha), (.int nd), (.ref a)]) (fun _ k => XS.idiv X3.here hx rfl (hb hby d7_21) rfl (by decide) k) ?_
  refine own_S (mkF m 23 #[rv a, .val (.int 1), iv nd] [(.int xx), (.int nd), (.ref a)]) (fun _ k => own_ldI (j := (0 : Int32)) (v := (.int xx)) X3 hx hZ e3 P6 (by decide) h0v (g := (mkF m 22 #[rv a, .val (.int 1), iv nd] [(.int 0), (.ref ha), (.int nd), (.ref a)])) rfl rfl (hb hby d7_22) _ k) ?_
  obtain ⟨cq4, q4a, q4b⟩ := Exa.cell P0
  obtain ⟨_, _, ⟨T4, L4, k4, n4⟩, -, X4, ⟨Lc4, hQ4, l4, y4, z4⟩, st4⟩ := X3.privateBack hx (y := own_y4) hown (mvT hZ (own_g hw (i := 51) rfl)) (mvT hZ (own_g hw (i := 52) rfl)) (own_selP (mvT hZ (own_g hw (i := 2) rfl)) (Cond.privateMethod_at (mvP hZ (own_g hw (i := 53) rfl) (args := #[]))) (mvT hZ (own_g hw (i := 52) rfl)) (by decide)) (Cond.privateMethod_at (mvP hZ (own_g hw (i := 53) rfl) (args := #[]))) (mvT hZ (own_g hw (i := 54) rfl)) (by decide) (backOf (W := 0) (own_rmbf l Z a0 hw [] (a) (da) (oa) (nd) (xx) (kd) (ko) (D) (O) (dn) (dx) (on) (ox) h0 n0 Z0 P1 P4 P5 P8 hn0 hx0 hdx hdy hox hoy) hZ (own_g hw (i := 54) rfl) (own_g hw (i := 3) rfl) (by decide) (by decide)) (g := (mkF m 23 #[rv a, .val (.int 1), iv nd] [(.int xx), (.int nd), (.ref a)])) rfl (by rw [hml]; rfl) (Steps.refl _) (a := a) (by rw [e3]; exact q4a) q4b (argsL := [(.int nd), (.int xx)]) (rest := []) (lenOf own_pd__II_Z rfl) rfl (by show 2 * 0 + _ ≤ _; exact Nat.le_of_eq rfl) (hb hby d7_23) (fun _ _ => ⟨rfl, e3, (by decide : 0 + 0 ≤ _), (by decide : 0 + 0 ≤ _)⟩)
  dsimp only [Pt.U, Pt.locs, Pt.cells, Pt.slots] at X4 l4 y4 z4 st4 hQ4
  subst l4 y4 z4
  obtain ⟨rfl, N4q, e4⟩ := hQ4
  have N4 := Fr.app N0 N4q
  refine own_S (mkF m 26 #[rv a, .val (.int 1), iv nd] [(.int (if (dn < dx ∨ (dn = dx ∧ ox < on)) then (1 : Int32) else (0 : Int32)))]) (fun _ k => st4.trans k) ?_
  obtain ⟨bb, h_bb⟩ : ∃ z : Int32, z = (if (dn < dx ∨ (dn = dx ∧ ox < on)) then (1 : Int32) else (0 : Int32)) := ⟨_, rfl⟩
  refine own_S (T' := T4) (mkF m 26 #[rv a, .val (.int 1), iv nd] [(.int bb)]) (fun _ k => by subst h_bb; exact k) ?_
  have hc5 : bb = (0 : Int32) := (by rw [h_bb, if_neg hB])
  refine own_S (mkF m 53 #[rv a, .val (.int 1), iv nd] []) (fun _ k => XS.ifYes X4.here hx rfl (pc0 := 26) (pc' := 53) rfl (hb hby d7_26) rfl ((if0 _ _).trans (teq hc5).1) (by decide) (by decide) k) ?_
  refine own_S (mkF m 54 #[rv a, .val (.int 1), iv nd] [(.ref a)]) (fun _ k => XS.aloadN X4.here hx rfl (hb hby d7_53) rfl rfl k) ?_
  refine own_S (mkF m 55 #[rv a, .val (.int 1), iv nd] [(.int nd), (.ref a)]) (fun _ k => XS.iloadN X4.here hx rfl (hb hby d7_54) rfl k) ?_
  refine own_S (mkF m 56 #[rv a, .val (.int 1), iv nd] [(.int 1), (.int nd), (.ref a)]) (fun _ k => XS.iloadN X4.here hx rfl (hb hby d7_55) rfl k) ?_
  obtain ⟨cq6, q6a, q6b⟩ := Exa.cell P0
  obtain ⟨_, _, ⟨T6, L6, k6, n6⟩, -, X6, ⟨Lc6, hQ6, l6, y6, z6⟩, st6⟩ := X4.privateBack hx (y := own_y3) hown (mvT hZ (own_g hw (i := 47) rfl)) (mvT hZ (own_g hw (i := 48) rfl)) (own_selP (mvT hZ (own_g hw (i := 2) rfl)) (Cond.privateMethod_at (mvP hZ (own_g hw (i := 49) rfl) (args := #[]))) (mvT hZ (own_g hw (i := 48) rfl)) (by decide)) (Cond.privateMethod_at (mvP hZ (own_g hw (i := 49) rfl) (args := #[]))) (mvT hZ (own_g hw (i := 50) rfl)) (by decide) (backOf (W := 0) (own_rmmt l Z a0 hw [] (a) (ha) (pa) (nd) ((1 : Int32)) (kh) (kp) (H) (P) h0 n0 Z0 P2 P3 P6 P7 G_ha G_pa NE_a_ha NE_a_pa NE_ha_pa (by decide) (own_lt_of hiv) hn0 hn1) hZ (own_g hw (i := 50) rfl) (own_g hw (i := 3) rfl) (by decide) (by decide)) (g := (mkF m 56 #[rv a, .val (.int 1), iv nd] [(.int 1), (.int nd), (.ref a)])) rfl (by rw [hml]; rfl) (Steps.refl _) (a := a) (by rw [e4]; exact q6a) q6b (argsL := [(.int nd), (.int 1)]) (rest := []) (lenOf own_pd__II_V rfl) rfl (by show 2 * 0 + _ ≤ _; exact Nat.le_of_eq rfl) (hb hby d7_56) (fun _ _ => ⟨rfl, e4, (by decide : 0 + 0 ≤ _), (by decide : 0 + 0 ≤ _)⟩)
  dsimp only [Pt.U, Pt.locs, Pt.cells, Pt.slots] at X6 l6 y6 z6 st6 hQ6
  subst l6 y6 z6
  obtain ⟨rfl, N6q, K6q, F7, F8⟩ := hQ6
  have N6 := Fr.app N4 N6q
  refine own_S (mkF m 59 #[rv a, .val (.int 1), iv nd] []) (fun _ k => st6.trans k) ?_
  have K6 : Keep h0 T6.heap [ha, pa] := (Keep.refl h0 [ha, pa]).trans K6q (allS (Or.inl (List.mem_of_getElem? (i := 0) rfl)) (allS (Or.inl (List.mem_of_getElem? (i := 1) rfl)) all0))
  have F9 := P0.keep K6q
  have F10 := P1.keep K6q (ninS NE_a_ha (ninS NE_a_pa nin0))
  have F11 := P2.keep K6q (ninS NE_a_ha (ninS NE_a_pa nin0))
  have F12 := P3.keep K6q (ninS NE_a_ha (ninS NE_a_pa nin0))
  have F13 := P4.keep K6q (ninS NE_a_ha (ninS NE_a_pa nin0))
  have F14 := P5.keep K6q (ninS NE_da_ha (ninS NE_da_pa nin0))
  have F15 := P8.keep K6q (ninS (Ne.symm NE_ha_oa) (ninS (Ne.symm NE_pa_oa) nin0))
  have Z6 : n0 ≤ T6.heap.size := Nat.le_trans Z0 K6q.1
  exact own_ret0 X6 hx hlk hret (hb hby d7_59) ⟨rfl, N6, K6, F7, F8⟩ (by decide) (by decide)
theorem own_pf_su2m : plainFor own_y5 = true := by first | exact plainFor_of_name (show plainName "com/example/stickler/stickler/assignment/NodeQueue" = true by first | (simp [plainName, overriddenIn]; done) | decide +kernel) | decide +kernel
theorem own_ef_su2m (m : MethodId) (y0 : Addr) (y1 : Int32) : entryFrame m #[(.ref y0), (.int y1)] 3 = mkF m 0 #[rv y0, iv y1, .unset] [] := by first | (simp [entryFrame, mkF, argsToLocals, Value.category]; done) | rfl
def own_Qsu2m (Z : State) (a : Addr) (da : Addr) (ha : Addr) (pa : Addr) (oa : Addr) (kd : ClassId) (kh : ClassId) (kp : ClassId) (ko : ClassId) (D : List Value) (H : List Value) (P : List Value) (O : List Value) (nd : Int32) (xx : Int32) (dn : Int64) (dx : Int64) (on : Int64) (ox : Int64) (h0 : Heap) (n0 : Nat) (v : Option Value) (h : Heap) (L : List Loc) : Prop := v = none ∧ Fr n0 L ∧ Keep h0 h [ha, pa] ∧ own_Ar Z h ha kh .int ((H.set 2 (.int xx)).set 0 (.int nd)) ∧ own_Ar Z h pa kp .int ((P.set (xx).toNatClampNeg (.int (2 : Int32))).set (nd).toNatClampNeg (.int (0 : Int32)))
set_option maxRecDepth 65536 in
set_option maxHeartbeats 40000000 in
theorem own_rmsu2m (l : Launch) (Z : State) (a0 : Array Value) (hw : ∀ d ∈ tables_1, d.before a0 Z = true) (ws : List Jvm.Cond) (a : Addr) (da : Addr) (ha : Addr) (pa : Addr) (oa : Addr) (kd : ClassId) (kh : ClassId) (kp : ClassId) (ko : ClassId) (D : List Value) (H : List Value) (P : List Value) (O : List Value) (nd : Int32) (xx : Int32) (dn : Int64) (dx : Int64) (on : Int64) (ox : Int64) (h0 : Heap) (n0 : Nat) (Z0 : n0 ≤ h0.size) (P0 : Exa Z h0 a "com/example/stickler/stickler/assignment/NodeQueue") (P1 : Fld Z h0 a "com/example/stickler/stickler/assignment/NodeQueue" "distance" "[J" (.ref da)) (P2 : Fld Z h0 a "com/example/stickler/stickler/assignment/NodeQueue" "heap" "[I" (.ref ha)) (P3 : Fld Z h0 a "com/example/stickler/stickler/assignment/NodeQueue" "place" "[I" (.ref pa)) (P4 : Fld Z h0 a "com/example/stickler/stickler/assignment/NodeQueue" "offered" "[J" (.ref oa)) (P5 : own_Ar Z h0 da kd .long D) (P6 : own_Ar Z h0 ha kh .int H) (P7 : own_Ar Z h0 pa kp .int P) (P8 : own_Ar Z h0 oa ko .long O) (G_ha : n0 ≤ ha) (G_pa : n0 ≤ pa) (NE_a_da : a ≠ da) (NE_a_ha : a ≠ ha) (NE_a_pa : a ≠ pa) (NE_a_oa : a ≠ oa) (NE_da_ha : da ≠ ha) (NE_da_pa : da ≠ pa) (NE_da_oa : da ≠ oa) (NE_ha_pa : ha ≠ pa) (NE_ha_oa : ha ≠ oa) (NE_pa_oa : pa ≠ oa) (h0v : H[0]? = some (.int xx)) (hiv : H[2]? = some (.int nd)) (hn0 : ¬ nd < (0 : Int32)) (hn1 : (nd).toNatClampNeg < P.length) (hx0 : ¬ xx < (0 : Int32)) (hx1 : (xx).toNatClampNeg < P.length) (hdx : D[(nd).toNatClampNeg]? = some (.long dn)) (hdy : D[(xx).toNatClampNeg]? = some (.long dx)) (hox : O[(nd).toNatClampNeg]? = some (.long on)) (hoy : O[(xx).toNatClampNeg]? = some (.long ox)) (hB : (dn < dx ∨ (dn = dx ∧ ox < on))) :
    MetFree l own_y5 (head1 (Jvm.Cond.code own_y5 prog_8_method_9_code 3 none :: ws) ({ frames := 1, cells := 0, slots := 0, locals := 14 } : Room)) (fun az Uz => az = #[(.ref a), (.int 2)] ∧ Z.Warmed39 Uz.vm ∧ Uz.heap = h0) (fun _ _ _ _ _ => True) (fun _ U o U' => ∃ v L, o = .returned v ∧ own_Qsu2m Z a da ha pa oa kd kh kp ko D H P O nd xx dn dx on ox h0 n0 v U'.heap L ∧ FrameEnd U o U' L ({ frames := 1, cells := 0, slots := 0, locals := 14 } : Room).cells ({ frames := 1, cells := 0, slots := 0, locals := 14 } : Room).slots) := by
  refine MetFree.of_bodySF own_pf_su2m hisR ?_
  intro p e s m args below meth c s₁ Bd hml0 hP hK
  obtain ⟨rfl, hZ, hh⟩ := hP
  have hx := Bd.exec
  have hby := Bd.bytes
  have hml : c.maxLocals = 3 := hml0
  have hown : s.vm.findClass "com/example/stickler/stickler/assignment/NodeQueue" = some m.cls := findClass_of_methodNamed Bd.named
  have hnm := (name_of_methodNamed Bd.named Bd.method).1
  have hlk : meth.locks = false := BodyLoose.notSynchronized Bd
  have hret := Bd.returns
  have X0 : Stand p l e ({ frames := 1, cells := 0, slots := 0, locals := 14 } : Room) s m #[(.ref a), (.int 2)] below meth c s₁ [] 0 0 := Stand.of_body Bd
  have e0 : s₁.heap = h0 := by rw [← hh, Bd.state]; rfl
  have N0 := Fr.nil n0
  show own_E p e below (own_K s (own_Qsu2m Z a da ha pa oa kd kh kp ko D H P O nd xx dn dx on ox h0 n0) ({ frames := 1, cells := 0, slots := 0, locals := 14 } : Room).cells ({ frames := 1, cells := 0, slots := 0, locals := 14 } : Room).slots) s₁ (entryFrame m #[(.ref a), (.int 2)] 3)
  refine own_S (mkF m 0 #[rv a, .val (.int 2), .unset] []) (fun _ k => castTop (own_ef_su2m m (a) ((2 : Int32))) k) ?_
  refine own_S (mkF m 1 #[rv a, .val (.int 2), .unset] [(.ref a)]) (fun _ k => XS.aloadN X0.here hx rfl (hb hby d7_0) rfl rfl k) ?_
  obtain ⟨T1, X1, e1, st1⟩ := getF X0 hx hZ hown (host := "") (Or.inl (own_g hw (i := 13) rfl)) Via.refl e0 P2 (g := (mkF m 1 #[rv a, .val (.int 2), .unset] [(.ref a)])) rfl rfl (hb hby d7_1)
  refine own_S (mkF m 4 #[rv a, .val (.int 2), .unset] [(.ref ha)]) st1 ?_
  refine own_S (mkF m 5 #[rv a, .val (.int 2), .unset] [(.int 2), (.ref ha)]) (fun _ k => XS.iloadN X1.here hx rfl (hb hby d7_4) rfl k) ?_
  refine own_S (mkF m 6 #[rv a, .val (.int 2), .unset] [(.int nd)]) (fun _ k => own_ldI (j := (2 : Int32)) (v := (.int nd)) X1 hx hZ e1 P6 (by decide) hiv (g := (mkF m 5 #[rv a, .val (.int 2), .unset] [(.int 2), (.ref ha)])) rfl rfl (hb hby d7_5) _ k) ?_
  refine own_S (mkF m 7 #[rv a, .val (.int 2), iv nd] []) (fun _ k => XS.istoreN X1.here hx rfl (hb hby d7_6) rfl (l' := #[rv a, .val (.int 2), iv nd]) rfl k) ?_
  refine own_S (mkF m 8 #[rv a, .val (.int 2), iv nd] [(.int 2)]) (fun _ k => XS.iloadN X1.here hx rfl (hb hby d7_7) rfl k) ?_
  have hc2 : (0 : Int32) < (2 : Int32) := by decide
  refine own_S (mkF m 11 #[rv a, .val (.int 2), iv nd] []) (fun _ k => XS.ifNo X1.here hx rfl (hb hby d7_8) rfl ((if0 _ _).trans (tlt hc2).2.2.2) k) ?_
  refine own_S (mkF m 12 #[rv a, .val (.int 2), iv nd] [(.ref a)]) (fun _ k => XS.aloadN X1.here hx rfl (hb hby d7_11) rfl rfl k) ?_
  refine own_S (mkF m 13 #[rv a, .val (.int 2), iv nd] [(.int nd), (.ref a)]) (fun _ k => XS.iloadN X1.here hx rfl (hb hby d7_12) rfl k) ?_
  refine own_S (mkF m 14 #[rv a, .val (.int 2), iv nd] [(.ref a), (.int nd), (.ref a)]) (fun _ k => XS.aloadN X1.here hx rfl (hb hby d7_13) rfl rfl k) ?_
  obtain ⟨T3, X3, e3, st3⟩ := getF X1 hx hZ hown (host := "") (Or.inl (own_g hw (i := 13) rfl)) Via.refl e1 P2 (g := (mkF m 14 #[rv a, .val (.int 2), iv nd] [(.ref a), (.int nd), (.ref a)])) rfl rfl (hb hby d7_14)
  refine own_S (mkF m 17 #[rv a, .val (.int 2), iv nd] [(.ref ha), (.int nd), (.ref a)]) st3 ?_
  refine own_S (mkF m 18 #[rv a, .val (.int 2), iv nd] [(.int 2), (.ref ha), (.int nd), (.ref a)]) (fun _ k => XS.iloadN X3.here hx rfl (hb hby d7_17) rfl k) ?_
  refine own_S (mkF m 19 #[rv a, .val (.int 2), iv nd] [(.int 1), (.int 2), (.ref ha), (.int nd), (.ref a)]) (fun _ k => XS.iconst X3.here hx rfl (hb hby d7_18) k) ?_
  refine own_S (mkF m 20 #[rv a, .val (.int 2), iv nd] [(.int 1), (.ref ha), (.int nd), (.ref a)]) (fun _ k => XS.isub X3.here hx rfl (hb hby d7_19) rfl k) ?_
  refine own_S (mkF m 21 #[rv a, .val (.int 2), iv nd] [(.int 2), (.int 1), (.ref ha), (.int nd), (.ref a)]) (fun _ k => XS.iconst X3.here hx rfl (hb hby d7_20) k) ?_
  refine own_S (mkF m 22 #[rv a, .val (.int 2), iv nd] [(.int 0), (.ref ha), (.int nd), (.ref a)]) (fun _ k => XS.idiv X3.here hx rfl (hb hby d7_21) rfl (by decide) k) ?_
  refine own_S (mkF m 23 #[rv a, .val (.int 2), iv nd] [(.int xx), (.int nd), (.ref a)]) (fun _ k => own_ldI (j := (0 : Int32)) (v := (.int xx)) X3 hx hZ e3 P6 (by decide) h0v (g := (mkF m 22 #[rv a, .val (.int 2), iv nd] [(.int 0), (.ref ha), (.int nd), (.ref a)])) rfl rfl (hb hby d7_22) _ k) ?_
  obtain ⟨cq4, q4a, q4b⟩ := Exa.cell P0
  obtain ⟨_, _, ⟨T4, L4, k4, n4⟩, -, X4, ⟨Lc4, hQ4, l4, y4, z4⟩, st4⟩ := X3.privateBack hx (y := own_y4) hown (mvT hZ (own_g hw (i := 51) rfl)) (mvT hZ (own_g hw (i := 52) rfl)) (own_selP (mvT hZ (own_g hw (i := 2) rfl)) (Cond.privateMethod_at (mvP hZ (own_g hw (i := 53) rfl) (args := #[]))) (mvT hZ (own_g hw (i := 52) rfl)) (by decide)) (Cond.privateMethod_at (mvP hZ (own_g hw (i := 53) rfl) (args := #[]))) (mvT hZ (own_g hw (i := 54) rfl)) (by decide) (backOf (W := 0) (own_rmbf l Z a0 hw [] (a) (da) (oa) (nd) (xx) (kd) (ko) (D) (O) (dn) (dx) (on) (ox) h0 n0 Z0 P1 P4 P5 P8 hn0 hx0 hdx hdy hox hoy) hZ (own_g hw (i := 54) rfl) (own_g hw (i := 3) rfl) (by decide) (by decide)) (g := (mkF m 23 #[rv a, .val (.int 2), iv nd] [(.int xx), (.int nd), (.ref a)])) rfl (by rw [hml]; rfl) (Steps.refl _) (a := a) (by rw [e3]; exact q4a) q4b (argsL := [(.int nd), (.int xx)]) (rest := []) (lenOf own_pd__II_Z rfl) rfl (by show 2 * 0 + _ ≤ _; exact Nat.le_of_eq rfl) (hb hby d7_23) (fun _ _ => ⟨rfl, e3, (by decide : 0 + 0 ≤ _), (by decide : 0 + 0 ≤ _)⟩)
  dsimp only [Pt.U, Pt.locs, Pt.cells, Pt.slots] at X4 l4 y4 z4 st4 hQ4
  subst l4 y4 z4
  obtain ⟨rfl, N4q, e4⟩ := hQ4
  have N4 := Fr.app N0 N4q
  refine own_S (mkF m 26 #[rv a, .val (.int 2), iv nd] [(.int (if (dn < dx ∨ (dn = dx ∧ ox < on)) then (1 : Int32) else (0 : Int32)))]) (fun _ k => st4.trans k) ?_
  obtain ⟨bb, h_bb⟩ : ∃ z : Int32, z = (if (dn < dx ∨ (dn = dx ∧ ox < on)) then (1 : Int32) else (0 : Int32)) := ⟨_, rfl⟩
  refine own_S (T' := T4) (mkF m 26 #[rv a, .val (.int 2), iv nd] [(.int bb)]) (fun _ k => by subst h_bb; exact k) ?_
  have hc5 : ¬ (bb = (0 : Int32)) := (by rw [h_bb, if_pos hB]; decide)
  refine own_S (mkF m 29 #[rv a, .val (.int 2), iv nd] []) (fun _ k => XS.ifNo X4.here hx rfl (hb hby d7_26) rfl ((if0 _ _).trans (feq hc5).1) k) ?_
  refine own_S (mkF m 30 #[rv a, .val (.int 2), iv nd] [(.ref a)]) (fun _ k => XS.aloadN X4.here hx rfl (hb hby d7_29) rfl rfl k) ?_
  refine own_S (mkF m 31 #[rv a, .val (.int 2), iv nd] [(.ref a), (.ref a)]) (fun _ k => XS.aloadN X4.here hx rfl (hb hby d7_30) rfl rfl k) ?_
  obtain ⟨T6, X6, e6, st6⟩ := getF X4 hx hZ hown (host := "") (Or.inl (own_g hw (i := 13) rfl)) Via.refl e4 P2 (g := (mkF m 31 #[rv a, .val (.int 2), iv nd] [(.ref a), (.ref a)])) rfl rfl (hb hby d7_31)
  refine own_S (mkF m 34 #[rv a, .val (.int 2), iv nd] [(.ref ha), (.ref a)]) st6 ?_
  refine own_S (mkF m 35 #[rv a, .val (.int 2), iv nd] [(.int 2), (.ref ha), (.ref a)]) (fun _ k => XS.iloadN X6.here hx rfl (hb hby d7_34) rfl k) ?_
  refine own_S (mkF m 36 #[rv a, .val (.int 2), iv nd] [(.int 1), (.int 2), (.ref ha), (.ref a)]) (fun _ k => XS.iconst X6.here hx rfl (hb hby d7_35) k) ?_
  refine own_S (mkF m 37 #[rv a, .val (.int 2), iv nd] [(.int 1), (.ref ha), (.ref a)]) (fun _ k => XS.isub X6.here hx rfl (hb hby d7_36) rfl k) ?_
  refine own_S (mkF m 38 #[rv a, .val (.int 2), iv nd] [(.int 2), (.int 1), (.ref ha), (.ref a)]) (fun _ k => XS.iconst X6.here hx rfl (hb hby d7_37) k) ?_
  refine own_S (mkF m 39 #[rv a, .val (.int 2), iv nd] [(.int 0), (.ref ha), (.ref a)]) (fun _ k => XS.idiv X6.here hx rfl (hb hby d7_38) rfl (by decide) k) ?_
  refine own_S (mkF m 40 #[rv a, .val (.int 2), iv nd] [(.int xx), (.ref a)]) (fun _ k => own_ldI (j := (0 : Int32)) (v := (.int xx)) X6 hx hZ e6 P6 (by decide) h0v (g := (mkF m 39 #[rv a, .val (.int 2), iv nd] [(.int 0), (.ref ha), (.ref a)])) rfl rfl (hb hby d7_39) _ k) ?_
  refine own_S (mkF m 41 #[rv a, .val (.int 2), iv nd] [(.int 2), (.int xx), (.ref a)]) (fun _ k => XS.iloadN X6.here hx rfl (hb hby d7_40) rfl k) ?_
  obtain ⟨cq7, q7a, q7b⟩ := Exa.cell P0
  obtain ⟨_, _, ⟨T7, L7, k7, n7⟩, -, X7, ⟨Lc7, hQ7, l7, y7, z7⟩, st7⟩ := X6.privateBack hx (y := own_y3) hown (mvT hZ (own_g hw (i := 47) rfl)) (mvT hZ (own_g hw (i := 48) rfl)) (own_selP (mvT hZ (own_g hw (i := 2) rfl)) (Cond.privateMethod_at (mvP hZ (own_g hw (i := 49) rfl) (args := #[]))) (mvT hZ (own_g hw (i := 48) rfl)) (by decide)) (Cond.privateMethod_at (mvP hZ (own_g hw (i := 49) rfl) (args := #[]))) (mvT hZ (own_g hw (i := 50) rfl)) (by decide) (backOf (W := 0) (own_rmmt l Z a0 hw [] (a) (ha) (pa) (xx) ((2 : Int32)) (kh) (kp) (H) (P) h0 n0 Z0 P2 P3 P6 P7 G_ha G_pa NE_a_ha NE_a_pa NE_ha_pa (by decide) (own_lt_of hiv) hx0 hx1) hZ (own_g hw (i := 50) rfl) (own_g hw (i := 3) rfl) (by decide) (by decide)) (g := (mkF m 41 #[rv a, .val (.int 2), iv nd] [(.int 2), (.int xx), (.ref a)])) rfl (by rw [hml]; rfl) (Steps.refl _) (a := a) (by rw [e6]; exact q7a) q7b (argsL := [(.int xx), (.int 2)]) (rest := []) (lenOf own_pd__II_V rfl) rfl (by show 2 * 0 + _ ≤ _; exact Nat.le_of_eq rfl) (hb hby d7_41) (fun _ _ => ⟨rfl, e6, (by decide : 0 + 0 ≤ _), (by decide : 0 + 0 ≤ _)⟩)
  dsimp only [Pt.U, Pt.locs, Pt.cells, Pt.slots] at X7 l7 y7 z7 st7 hQ7
  subst l7 y7 z7
  obtain ⟨rfl, N7q, K7q, F8, F9⟩ := hQ7
  have N7 := Fr.app N4 N7q
  refine own_S (mkF m 44 #[rv a, .val (.int 2), iv nd] []) (fun _ k => st7.trans k) ?_
  have K7 : Keep h0 T7.heap [ha, pa] := (Keep.refl h0 [ha, pa]).trans K7q (allS (Or.inl (List.mem_of_getElem? (i := 0) rfl)) (allS (Or.inl (List.mem_of_getElem? (i := 1) rfl)) all0))
  have F10 := P0.keep K7q
  have F11 := P1.keep K7q (ninS NE_a_ha (ninS NE_a_pa nin0))
  have F12 := P2.keep K7q (ninS NE_a_ha (ninS NE_a_pa nin0))
  have F13 := P3.keep K7q (ninS NE_a_ha (ninS NE_a_pa nin0))
  have F14 := P4.keep K7q (ninS NE_a_ha (ninS NE_a_pa nin0))
  have F15 := P5.keep K7q (ninS NE_da_ha (ninS NE_da_pa nin0))
  have F16 := P8.keep K7q (ninS (Ne.symm NE_ha_oa) (ninS (Ne.symm NE_pa_oa) nin0))
  have Z7 : n0 ≤ T7.heap.size := Nat.le_trans Z0 K7q.1
  refine own_S (mkF m 45 #[rv a, .val (.int 2), iv nd] [(.int 2)]) (fun _ k => XS.iloadN X7.here hx rfl (hb hby d7_44) rfl k) ?_
  refine own_S (mkF m 46 #[rv a, .val (.int 2), iv nd] [(.int 1), (.int 2)]) (fun _ k => XS.iconst X7.here hx rfl (hb hby d7_45) k) ?_
  refine own_S (mkF m 47 #[rv a, .val (.int 2), iv nd] [(.int 1)]) (fun _ k => XS.isub X7.here hx rfl (hb hby d7_46) rfl k) ?_
  refine own_S (mkF m 48 #[rv a, .val (.int 2), iv nd] [(.int 2), (.int 1)]) (fun _ k => XS.iconst X7.here hx rfl (hb hby d7_47) k) ?_
  refine own_S (mkF m 49 #[rv a, .val (.int 2), iv nd] [(.int 0)]) (fun _ k => XS.idiv X7.here hx rfl (hb hby d7_48) rfl (by decide) k) ?_
  refine own_S (mkF m 50 #[rv a, .val (.int 0), iv nd] []) (fun _ k => XS.istoreN X7.here hx rfl (hb hby d7_49) rfl (l' := #[rv a, .val (.int 0), iv nd]) rfl k) ?_
  refine own_S (mkF m 7 #[rv a, .val (.int 0), iv nd] []) (fun _ k => XS.goto X7.here hx rfl (pc0 := 50) (pc' := 7) rfl (hb hby d7_50) (by decide) (by decide) k) ?_
  refine own_S (mkF m 8 #[rv a, .val (.int 0), iv nd] [(.int 0)]) (fun _ k => XS.iloadN X7.here hx rfl (hb hby d7_7) rfl k) ?_
  have hc17 : ¬ ((0 : Int32) < (0 : Int32)) := by decide
  refine own_S (mkF m 53 #[rv a, .val (.int 0), iv nd] []) (fun _ k => XS.ifYes X7.here hx rfl (pc0 := 8) (pc' := 53) rfl (hb hby d7_8) rfl ((if0 _ _).trans (flt hc17).2.2.2) (by decide) (by decide) k) ?_
  refine own_S (mkF m 54 #[rv a, .val (.int 0), iv nd] [(.ref a)]) (fun _ k => XS.aloadN X7.here hx rfl (hb hby d7_53) rfl rfl k) ?_
  refine own_S (mkF m 55 #[rv a, .val (.int 0), iv nd] [(.int nd), (.ref a)]) (fun _ k => XS.iloadN X7.here hx rfl (hb hby d7_54) rfl k) ?_
  refine own_S (mkF m 56 #[rv a, .val (.int 0), iv nd] [(.int 0), (.int nd), (.ref a)]) (fun _ k => XS.iloadN X7.here hx rfl (hb hby d7_55) rfl k) ?_
  obtain ⟨cq18, q18a, q18b⟩ := Exa.cell F10
  obtain ⟨_, _, ⟨T18, L18, k18, n18⟩, -, X18, ⟨Lc18, hQ18, l18, y18, z18⟩, st18⟩ := X7.privateBack hx (y := own_y3) hown (mvT hZ (own_g hw (i := 47) rfl)) (mvT hZ (own_g hw (i := 48) rfl)) (own_selP (mvT hZ (own_g hw (i := 2) rfl)) (Cond.privateMethod_at (mvP hZ (own_g hw (i := 49) rfl) (args := #[]))) (mvT hZ (own_g hw (i := 48) rfl)) (by decide)) (Cond.privateMethod_at (mvP hZ (own_g hw (i := 49) rfl) (args := #[]))) (mvT hZ (own_g hw (i := 50) rfl)) (by decide) (backOf (W := 0) (own_rmmt l Z a0 hw [] (a) (ha) (pa) (nd) ((0 : Int32)) (kh) (kp) ((H.set ((2 : Int32)).toNatClampNeg (.int xx))) ((P.set (xx).toNatClampNeg (.int (2 : Int32)))) T7.heap n0 Z7 F12 F13 F8 F9 G_ha G_pa NE_a_ha NE_a_pa NE_ha_pa (by decide) (by rw [List.length_set]; exact own_lt_of h0v) hn0 (by rw [List.length_set]; exact hn1)) hZ (own_g hw (i := 50) rfl) (own_g hw (i := 3) rfl) (by decide) (by decide)) (g := (mkF m 56 #[rv a, .val (.int 0), iv nd] [(.int 0), (.int nd), (.ref a)])) rfl (by rw [hml]; rfl) (Steps.refl _) (a := a) q18a q18b (argsL := [(.int nd), (.int 0)]) (rest := []) (lenOf own_pd__II_V rfl) rfl (by show 2 * 0 + _ ≤ _; exact Nat.le_of_eq rfl) (hb hby d7_56) (fun _ _ => ⟨rfl, rfl, (by decide : 0 + 0 ≤ _), (by decide : 0 + 0 ≤ _)⟩)
  dsimp only [Pt.U, Pt.locs, Pt.cells, Pt.slots] at X18 l18 y18 z18 st18 hQ18
  subst l18 y18 z18
  obtain ⟨rfl, N18q, K18q, F19, F20⟩ := hQ18
  have N18 := Fr.app N7 N18q
  refine own_S (mkF m 59 #[rv a, .val (.int 0), iv nd] []) (fun _ k => st18.trans k) ?_
  have K18 : Keep h0 T18.heap [ha, pa] := K7.trans K18q (allS (Or.inl (List.mem_of_getElem? (i := 0) rfl)) (allS (Or.inl (List.mem_of_getElem? (i := 1) rfl)) all0))
  have F21 := F10.keep K18q
  have F22 := F11.keep K18q (ninS NE_a_ha (ninS NE_a_pa nin0))
  have F23 := F12.keep K18q (ninS NE_a_ha (ninS NE_a_pa nin0))
  have F24 := F13.keep K18q (ninS NE_a_ha (ninS NE_a_pa nin0))
  have F25 := F14.keep K18q (ninS NE_a_ha (ninS NE_a_pa nin0))
  have F26 := F15.keep K18q (ninS NE_da_ha (ninS NE_da_pa nin0))
  have F27 := F16.keep K18q (ninS (Ne.symm NE_ha_oa) (ninS (Ne.symm NE_pa_oa) nin0))
  have Z18 : n0 ≤ T18.heap.size := Nat.le_trans Z7 K18q.1
  exact own_ret0 X18 hx hlk hret (hb hby d7_59) ⟨rfl, N18, K18, F19, F20⟩ (by decide) (by decide)
theorem own_pf_su2n : plainFor own_y5 = true := by first | exact plainFor_of_name (show plainName "com/example/stickler/stickler/assignment/NodeQueue" = true by first | (simp [plainName, overriddenIn]; done) | decide +kernel) | decide +kernel
theorem own_ef_su2n (m : MethodId) (y0 : Addr) (y1 : Int32) : entryFrame m #[(.ref y0), (.int y1)] 3 = mkF m 0 #[rv y0, iv y1, .unset] [] := by first | (simp [entryFrame, mkF, argsToLocals, Value.category]; done) | rfl
def own_Qsu2n (Z : State) (a : Addr) (da : Addr) (ha : Addr) (pa : Addr) (oa : Addr) (kd : ClassId) (kh : ClassId) (kp : ClassId) (ko : ClassId) (D : List Value) (H : List Value) (P : List Value) (O : List Value) (nd : Int32) (xx : Int32) (dn : Int64) (dx : Int64) (on : Int64) (ox : Int64) (h0 : Heap) (n0 : Nat) (v : Option Value) (h : Heap) (L : List Loc) : Prop := v = none ∧ Fr n0 L ∧ Keep h0 h [ha, pa] ∧ own_Ar Z h ha kh .int (H.set 2 (.int nd)) ∧ own_Ar Z h pa kp .int (P.set (nd).toNatClampNeg (.int (2 : Int32)))
set_option maxRecDepth 65536 in
set_option maxHeartbeats 40000000 in
theorem own_rmsu2n (l : Launch) (Z : State) (a0 : Array Value) (hw : ∀ d ∈ tables_1, d.before a0 Z = true) (ws : List Jvm.Cond) (a : Addr) (da : Addr) (ha : Addr) (pa : Addr) (oa : Addr) (kd : ClassId) (kh : ClassId) (kp : ClassId) (ko : ClassId) (D : List Value) (H : List Value) (P : List Value) (O : List Value) (nd : Int32) (xx : Int32) (dn : Int64) (dx : Int64) (on : Int64) (ox : Int64) (h0 : Heap) (n0 : Nat) (Z0 : n0 ≤ h0.size) (P0 : Exa Z h0 a "com/example/stickler/stickler/assignment/NodeQueue") (P1 : Fld Z h0 a "com/example/stickler/stickler/assignment/NodeQueue" "distance" "[J" (.ref da)) (P2 : Fld Z h0 a "com/example/stickler/stickler/assignment/NodeQueue" "heap" "[I" (.ref ha)) (P3 : Fld Z h0 a "com/example/stickler/stickler/assignment/NodeQueue" "place" "[I" (.ref pa)) (P4 : Fld Z h0 a "com/example/stickler/stickler/assignment/NodeQueue" "offered" "[J" (.ref oa)) (P5 : own_Ar Z h0 da kd .long D) (P6 : own_Ar Z h0 ha kh .int H) (P7 : own_Ar Z h0 pa kp .int P) (P8 : own_Ar Z h0 oa ko .long O) (G_ha : n0 ≤ ha) (G_pa : n0 ≤ pa) (NE_a_da : a ≠ da) (NE_a_ha : a ≠ ha) (NE_a_pa : a ≠ pa) (NE_a_oa : a ≠ oa) (NE_da_ha : da ≠ ha) (NE_da_pa : da ≠ pa) (NE_da_oa : da ≠ oa) (NE_ha_pa : ha ≠ pa) (NE_ha_oa : ha ≠ oa) (NE_pa_oa : pa ≠ oa) (h0v : H[0]? = some (.int xx)) (hiv : H[2]? = some (.int nd)) (hn0 : ¬ nd < (0 : Int32)) (hn1 : (nd).toNatClampNeg < P.length) (hx0 : ¬ xx < (0 : Int32)) (hx1 : (xx).toNatClampNeg < P.length) (hdx : D[(nd).toNatClampNeg]? = some (.long dn)) (hdy : D[(xx).toNatClampNeg]? = some (.long dx)) (hox : O[(nd).toNatClampNeg]? = some (.long on)) (hoy : O[(xx).toNatClampNeg]? = some (.long ox)) (hB : ¬ (dn < dx ∨ (dn = dx ∧ ox < on))) :
    MetFree l own_y5 (head1 (Jvm.Cond.code own_y5 prog_8_method_9_code 3 none :: ws) ({ frames := 1, cells := 0, slots := 0, locals := 14 } : Room)) (fun az Uz => az = #[(.ref a), (.int 2)] ∧ Z.Warmed39 Uz.vm ∧ Uz.heap = h0) (fun _ _ _ _ _ => True) (fun _ U o U' => ∃ v L, o = .returned v ∧ own_Qsu2n Z a da ha pa oa kd kh kp ko D H P O nd xx dn dx on ox h0 n0 v U'.heap L ∧ FrameEnd U o U' L ({ frames := 1, cells := 0, slots := 0, locals := 14 } : Room).cells ({ frames := 1, cells := 0, slots := 0, locals := 14 } : Room).slots) := by
  refine MetFree.of_bodySF own_pf_su2n hisR ?_
  intro p e s m args below meth c s₁ Bd hml0 hP hK
  obtain ⟨rfl, hZ, hh⟩ := hP
  have hx := Bd.exec
  have hby := Bd.bytes
  have hml : c.maxLocals = 3 := hml0
  have hown : s.vm.findClass "com/example/stickler/stickler/assignment/NodeQueue" = some m.cls := findClass_of_methodNamed Bd.named
  have hnm := (name_of_methodNamed Bd.named Bd.method).1
  have hlk : meth.locks = false := BodyLoose.notSynchronized Bd
  have hret := Bd.returns
  have X0 : Stand p l e ({ frames := 1, cells := 0, slots := 0, locals := 14 } : Room) s m #[(.ref a), (.int 2)] below meth c s₁ [] 0 0 := Stand.of_body Bd
  have e0 : s₁.heap = h0 := by rw [← hh, Bd.state]; rfl
  have N0 := Fr.nil n0
  show own_E p e below (own_K s (own_Qsu2n Z a da ha pa oa kd kh kp ko D H P O nd xx dn dx on ox h0 n0) ({ frames := 1, cells := 0, slots := 0, locals := 14 } : Room).cells ({ frames := 1, cells := 0, slots := 0, locals := 14 } : Room).slots) s₁ (entryFrame m #[(.ref a), (.int 2)] 3)
  refine own_S (mkF m 0 #[rv a, .val (.int 2), .unset] []) (fun _ k => castTop (own_ef_su2n m (a) ((2 : Int32))) k) ?_
  refine own_S (mkF m 1 #[rv a, .val (.int 2), .unset] [(.ref a)]) (fun _ k => XS.aloadN X0.here hx rfl (hb hby d7_0) rfl rfl k) ?_
  obtain ⟨T1, X1, e1, st1⟩ := getF X0 hx hZ hown (host := "") (Or.inl (own_g hw (i := 13) rfl)) Via.refl e0 P2 (g := (mkF m 1 #[rv a, .val (.int 2), .unset] [(.ref a)])) rfl rfl (hb hby d7_1)
  refine own_S (mkF m 4 #[rv a, .val (.int 2), .unset] [(.ref ha)]) st1 ?_
  refine own_S (mkF m 5 #[rv a, .val (.int 2), .unset] [(.int 2), (.ref ha)]) (fun _ k => XS.iloadN X1.here hx rfl (hb hby d7_4) rfl k) ?_
  refine own_S (mkF m 6 #[rv a, .val (.int 2), .unset] [(.int nd)]) (fun _ k => own_ldI (j := (2 : Int32)) (v := (.int nd)) X1 hx hZ e1 P6 (by decide) hiv (g := (mkF m 5 #[rv a, .val (.int 2), .unset] [(.int 2), (.ref ha)])) rfl rfl (hb hby d7_5) _ k) ?_
  refine own_S (mkF m 7 #[rv a, .val (.int 2), iv nd] []) (fun _ k => XS.istoreN X1.here hx rfl (hb hby d7_6) rfl (l' := #[rv a, .val (.int 2), iv nd]) rfl k) ?_
  refine own_S (mkF m 8 #[rv a, .val (.int 2), iv nd] [(.int 2)]) (fun _ k => XS.iloadN X1.here hx rfl (hb hby d7_7) rfl k) ?_
  have hc2 : (0 : Int32) < (2 : Int32) := by decide
  refine own_S (mkF m 11 #[rv a, .val (.int 2), iv nd] []) (fun _ k => XS.ifNo X1.here hx rfl (hb hby d7_8) rfl ((if0 _ _).trans (tlt hc2).2.2.2) k) ?_
  refine own_S (mkF m 12 #[rv a, .val (.int 2), iv nd] [(.ref a)]) (fun _ k => XS.aloadN X1.here hx rfl (hb hby d7_11) rfl rfl k) ?_
  refine own_S (mkF m 13 #[rv a, .val (.int 2), iv nd] [(.int nd), (.ref a)]) (fun _ k => XS.iloadN X1.here hx rfl (hb hby d7_12) rfl k) ?_
  refine own_S (mkF m 14 #[rv a, .val (.int 2), iv nd] [(.ref a), (.int nd), (.ref a)]) (fun _ k => XS.aloadN X1.here hx rfl (hb hby d7_13) rfl rfl k) ?_
  obtain ⟨T3, X3, e3, st3⟩ := getF X1 hx hZ hown (host := "") (Or.inl (own_g hw (i := 13) rfl)) Via.refl e1 P2 (g := (mkF m 14 #[rv a, .val (.int 2), iv nd] [(.ref a), (.int nd), (.ref a)])) rfl rfl (hb hby d7_14)
  refine own_S (mkF m 17 #[rv a, .val (.int 2), iv nd] [(.ref ha), (.int nd), (.ref a)]) st3 ?_
  refine own_S (mkF m 18 #[rv a, .val (.int 2), iv nd] [(.int 2), (.ref ha), (.int nd), (.ref a)]) (fun _ k => XS.iloadN X3.here hx rfl (hb hby d7_17) rfl k) ?_
  refine own_S (mkF m 19 #[rv a, .val (.int 2), iv nd] [(.int 1), (.int 2), (.ref ha), (.int nd), (.ref a)]) (fun _ k => XS.iconst X3.here hx rfl (hb hby d7_18) k) ?_
  refine own_S (mkF m 20 #[rv a, .val (.int 2), iv nd] [(.int 1), (.ref ha), (.int nd), (.ref a)]) (fun _ k => XS.isub X3.here hx rfl (hb hby d7_19) rfl k) ?_
  refine own_S (mkF m 21 #[rv a, .val (.int 2), iv nd] [(.int 2), (.int 1), (.ref ha), (.int nd), (.ref a)]) (fun _ k => XS.iconst X3.here hx rfl (hb hby d7_20) k) ?_
  refine own_S (mkF m 22 #[rv a, .val (.int 2), iv nd] [(.int 0), (.ref ha), (.int nd), (.ref a)]) (fun _ k => XS.idiv X3.here hx rfl (hb hby d7_21) rfl (by decide) k) ?_
  refine own_S (mkF m 23 #[rv a, .val (.int 2), iv nd] [(.int xx), (.int nd), (.ref a)]) (fun _ k => own_ldI (j := (0 : Int32)) (v := (.int xx)) X3 hx hZ e3 P6 (by decide) h0v (g := (mkF m 22 #[rv a, .val (.int 2), iv nd] [(.int 0), (.ref ha), (.int nd), (.ref a)])) rfl rfl (hb hby d7_22) _ k) ?_
  obtain ⟨cq4, q4a, q4b⟩ := Exa.cell P0
  obtain ⟨_, _, ⟨T4, L4, k4, n4⟩, -, X4, ⟨Lc4, hQ4, l4, y4, z4⟩, st4⟩ := X3.privateBack hx (y := own_y4) hown (mvT hZ (own_g hw (i := 51) rfl)) (mvT hZ (own_g hw (i := 52) rfl)) (own_selP (mvT hZ (own_g hw (i := 2) rfl)) (Cond.privateMethod_at (mvP hZ (own_g hw (i := 53) rfl) (args := #[]))) (mvT hZ (own_g hw (i := 52) rfl)) (by decide)) (Cond.privateMethod_at (mvP hZ (own_g hw (i := 53) rfl) (args := #[]))) (mvT hZ (own_g hw (i := 54) rfl)) (by decide) (backOf (W := 0) (own_rmbf l Z a0 hw [] (a) (da) (oa) (nd) (xx) (kd) (ko) (D) (O) (dn) (dx) (on) (ox) h0 n0 Z0 P1 P4 P5 P8 hn0 hx0 hdx hdy hox hoy) hZ (own_g hw (i := 54) rfl) (own_g hw (i := 3) rfl) (by decide) (by decide)) (g := (mkF m 23 #[rv a, .val (.int 2), iv nd] [(.int xx), (.int nd), (.ref a)])) rfl (by rw [hml]; rfl) (Steps.refl _) (a := a) (by rw [e3]; exact q4a) q4b (argsL := [(.int nd), (.int xx)]) (rest := []) (lenOf own_pd__II_Z rfl) rfl (by show 2 * 0 + _ ≤ _; exact Nat.le_of_eq rfl) (hb hby d7_23) (fun _ _ => ⟨rfl, e3, (by decide : 0 + 0 ≤ _), (by decide : 0 + 0 ≤ _)⟩)
  dsimp only [Pt.U, Pt.locs, Pt.cells, Pt.slots] at X4 l4 y4 z4 st4 hQ4
  subst l4 y4 z4
  obtain ⟨rfl, N4q, e4⟩ := hQ4
  have N4 := Fr.app N0 N4q
  refine own_S (mkF m 26 #[rv a, .val (.int 2), iv nd] [(.int (if (dn < dx ∨ (dn = dx ∧ ox < on)) then (1 : Int32) else (0 : Int32)))]) (fun _ k => st4.trans k) ?_
  obtain ⟨bb, h_bb⟩ : ∃ z : Int32, z = (if (dn < dx ∨ (dn = dx ∧ ox < on)) then (1 : Int32) else (0 : Int32)) := ⟨_, rfl⟩
  refine own_S (T' := T4) (mkF m 26 #[rv a, .val (.int 2), iv nd] [(.int bb)]) (fun _ k => by subst h_bb; exact k) ?_
  have hc5 : bb = (0 : Int32) := (by rw [h_bb, if_neg hB])
  refine own_S (mkF m 53 #[rv a, .val (.int 2), iv nd] []) (fun _ k => XS.ifYes X4.here hx rfl (pc0 := 26) (pc' := 53) rfl (hb hby d7_26) rfl ((if0 _ _).trans (teq hc5).1) (by decide) (by decide) k) ?_
  refine own_S (mkF m 54 #[rv a, .val (.int 2), iv nd] [(.ref a)]) (fun _ k => XS.aloadN X4.here hx rfl (hb hby d7_53) rfl rfl k) ?_
  refine own_S (mkF m 55 #[rv a, .val (.int 2), iv nd] [(.int nd), (.ref a)]) (fun _ k => XS.iloadN X4.here hx rfl (hb hby d7_54) rfl k) ?_
  refine own_S (mkF m 56 #[rv a, .val (.int 2), iv nd] [(.int 2), (.int nd), (.ref a)]) (fun _ k => XS.iloadN X4.here hx rfl (hb hby d7_55) rfl k) ?_
  obtain ⟨cq6, q6a, q6b⟩ := Exa.cell P0
  obtain ⟨_, _, ⟨T6, L6, k6, n6⟩, -, X6, ⟨Lc6, hQ6, l6, y6, z6⟩, st6⟩ := X4.privateBack hx (y := own_y3) hown (mvT hZ (own_g hw (i := 47) rfl)) (mvT hZ (own_g hw (i := 48) rfl)) (own_selP (mvT hZ (own_g hw (i := 2) rfl)) (Cond.privateMethod_at (mvP hZ (own_g hw (i := 49) rfl) (args := #[]))) (mvT hZ (own_g hw (i := 48) rfl)) (by decide)) (Cond.privateMethod_at (mvP hZ (own_g hw (i := 49) rfl) (args := #[]))) (mvT hZ (own_g hw (i := 50) rfl)) (by decide) (backOf (W := 0) (own_rmmt l Z a0 hw [] (a) (ha) (pa) (nd) ((2 : Int32)) (kh) (kp) (H) (P) h0 n0 Z0 P2 P3 P6 P7 G_ha G_pa NE_a_ha NE_a_pa NE_ha_pa (by decide) (own_lt_of hiv) hn0 hn1) hZ (own_g hw (i := 50) rfl) (own_g hw (i := 3) rfl) (by decide) (by decide)) (g := (mkF m 56 #[rv a, .val (.int 2), iv nd] [(.int 2), (.int nd), (.ref a)])) rfl (by rw [hml]; rfl) (Steps.refl _) (a := a) (by rw [e4]; exact q6a) q6b (argsL := [(.int nd), (.int 2)]) (rest := []) (lenOf own_pd__II_V rfl) rfl (by show 2 * 0 + _ ≤ _; exact Nat.le_of_eq rfl) (hb hby d7_56) (fun _ _ => ⟨rfl, e4, (by decide : 0 + 0 ≤ _), (by decide : 0 + 0 ≤ _)⟩)
  dsimp only [Pt.U, Pt.locs, Pt.cells, Pt.slots] at X6 l6 y6 z6 st6 hQ6
  subst l6 y6 z6
  obtain ⟨rfl, N6q, K6q, F7, F8⟩ := hQ6
  have N6 := Fr.app N4 N6q
  refine own_S (mkF m 59 #[rv a, .val (.int 2), iv nd] []) (fun _ k => st6.trans k) ?_
  have K6 : Keep h0 T6.heap [ha, pa] := (Keep.refl h0 [ha, pa]).trans K6q (allS (Or.inl (List.mem_of_getElem? (i := 0) rfl)) (allS (Or.inl (List.mem_of_getElem? (i := 1) rfl)) all0))
  have F9 := P0.keep K6q
  have F10 := P1.keep K6q (ninS NE_a_ha (ninS NE_a_pa nin0))
  have F11 := P2.keep K6q (ninS NE_a_ha (ninS NE_a_pa nin0))
  have F12 := P3.keep K6q (ninS NE_a_ha (ninS NE_a_pa nin0))
  have F13 := P4.keep K6q (ninS NE_a_ha (ninS NE_a_pa nin0))
  have F14 := P5.keep K6q (ninS NE_da_ha (ninS NE_da_pa nin0))
  have F15 := P8.keep K6q (ninS (Ne.symm NE_ha_oa) (ninS (Ne.symm NE_pa_oa) nin0))
  have Z6 : n0 ≤ T6.heap.size := Nat.le_trans Z0 K6q.1
  exact own_ret0 X6 hx hlk hret (hb hby d7_59) ⟨rfl, N6, K6, F7, F8⟩ (by decide) (by decide)
theorem d6_0 : decode prog_8_method_3_code 0 = .ok (.aload_n 0, 1) := by decide +kernel
theorem d6_1 : decode prog_8_method_3_code 1 = .ok (.getfield 20, 3) := by decide +kernel
theorem d6_4 : decode prog_8_method_3_code 4 = .ok (.iload_n 1, 1) := by decide +kernel
theorem d6_5 : decode prog_8_method_3_code 5 = .ok (.aload_n 0, 1) := by decide +kernel
theorem d6_6 : decode prog_8_method_3_code 6 = .ok (.dup, 1) := by decide +kernel
theorem d6_7 : decode prog_8_method_3_code 7 = .ok (.getfield 33, 3) := by decide +kernel
theorem d6_10 : decode prog_8_method_3_code 10 = .ok (.lconst 1, 1) := by decide +kernel
theorem d6_11 : decode prog_8_method_3_code 11 = .ok (.ladd, 1) := by decide +kernel
theorem d6_12 : decode prog_8_method_3_code 12 = .ok (.dup2_x1, 1) := by decide +kernel
theorem d6_13 : decode prog_8_method_3_code 13 = .ok (.putfield 33, 3) := by decide +kernel
theorem d6_16 : decode prog_8_method_3_code 16 = .ok (.lastore, 1) := by decide +kernel
theorem d6_17 : decode prog_8_method_3_code 17 = .ok (.aload_n 0, 1) := by decide +kernel
theorem d6_18 : decode prog_8_method_3_code 18 = .ok (.getfield 17, 3) := by decide +kernel
theorem d6_21 : decode prog_8_method_3_code 21 = .ok (.iload_n 1, 1) := by decide +kernel
theorem d6_22 : decode prog_8_method_3_code 22 = .ok (.iaload, 1) := by decide +kernel
theorem d6_23 : decode prog_8_method_3_code 23 = .ok (.ifCond .ge 30, 3) := by decide +kernel
theorem d6_26 : decode prog_8_method_3_code 26 = .ok (.aload_n 0, 1) := by decide +kernel
theorem d6_27 : decode prog_8_method_3_code 27 = .ok (.getfield 13, 3) := by decide +kernel
theorem d6_30 : decode prog_8_method_3_code 30 = .ok (.aload_n 0, 1) := by decide +kernel
theorem d6_31 : decode prog_8_method_3_code 31 = .ok (.getfield 29, 3) := by decide +kernel
theorem d6_34 : decode prog_8_method_3_code 34 = .ok (.iload_n 1, 1) := by decide +kernel
theorem d6_35 : decode prog_8_method_3_code 35 = .ok (.iastore, 1) := by decide +kernel
theorem d6_36 : decode prog_8_method_3_code 36 = .ok (.aload_n 0, 1) := by decide +kernel
theorem d6_37 : decode prog_8_method_3_code 37 = .ok (.getfield 17, 3) := by decide +kernel
theorem d6_40 : decode prog_8_method_3_code 40 = .ok (.iload_n 1, 1) := by decide +kernel
theorem d6_41 : decode prog_8_method_3_code 41 = .ok (.aload_n 0, 1) := by decide +kernel
theorem d6_42 : decode prog_8_method_3_code 42 = .ok (.dup, 1) := by decide +kernel
theorem d6_43 : decode prog_8_method_3_code 43 = .ok (.getfield 29, 3) := by decide +kernel
theorem d6_46 : decode prog_8_method_3_code 46 = .ok (.dup_x1, 1) := by decide +kernel
theorem d6_47 : decode prog_8_method_3_code 47 = .ok (.iconst 1, 1) := by decide +kernel
theorem d6_48 : decode prog_8_method_3_code 48 = .ok (.iadd, 1) := by decide +kernel
theorem d6_49 : decode prog_8_method_3_code 49 = .ok (.putfield 29, 3) := by decide +kernel
theorem d6_52 : decode prog_8_method_3_code 52 = .ok (.iastore, 1) := by decide +kernel
theorem d6_53 : decode prog_8_method_3_code 53 = .ok (.aload_n 0, 1) := by decide +kernel
theorem d6_54 : decode prog_8_method_3_code 54 = .ok (.aload_n 0, 1) := by decide +kernel
theorem d6_55 : decode prog_8_method_3_code 55 = .ok (.getfield 17, 3) := by decide +kernel
theorem d6_58 : decode prog_8_method_3_code 58 = .ok (.iload_n 1, 1) := by decide +kernel
theorem d6_59 : decode prog_8_method_3_code 59 = .ok (.iaload, 1) := by decide +kernel
theorem d6_60 : decode prog_8_method_3_code 60 = .ok (.invokevirtual 37, 3) := by decide +kernel
theorem d6_63 : decode prog_8_method_3_code 63 = .ok (.return_, 1) := by decide +kernel
theorem own_pd__I_V : parseMethodDescriptor "(I)V" = some ⟨[.int], none⟩ := by decide +kernel
theorem own_pf_ofA : plainFor own_y6 = true := by first | exact plainFor_of_name (show plainName "com/example/stickler/stickler/assignment/NodeQueue" = true by first | (simp [plainName, overriddenIn]; done) | decide +kernel) | decide +kernel
theorem own_ef_ofA (m : MethodId) (y0 : Addr) (y1 : Int32) : entryFrame m #[(.ref y0), (.int y1)] 2 = mkF m 0 #[rv y0, iv y1] [] := by first | (simp [entryFrame, mkF, argsToLocals, Value.category]; done) | rfl
def own_QofA (Z : State) (a : Addr) (da : Addr) (ha : Addr) (pa : Addr) (oa : Addr) (kd : ClassId) (kh : ClassId) (kp : ClassId) (ko : ClassId) (D : List Value) (H : List Value) (P : List Value) (O : List Value) (nd : Int32) (of : Int64) (h0 : Heap) (n0 : Nat) (v : Option Value) (h : Heap) (L : List Loc) : Prop := v = none ∧ Fr n0 L ∧ Keep h0 h [a, ha, pa, oa] ∧ Exa Z h a "com/example/stickler/stickler/assignment/NodeQueue" ∧ Fld Z h a "com/example/stickler/stickler/assignment/NodeQueue" "distance" "[J" (.ref da) ∧ Fld Z h a "com/example/stickler/stickler/assignment/NodeQueue" "heap" "[I" (.ref ha) ∧ Fld Z h a "com/example/stickler/stickler/assignment/NodeQueue" "place" "[I" (.ref pa) ∧ Fld Z h a "com/example/stickler/stickler/assignment/NodeQueue" "offered" "[J" (.ref oa) ∧ Fld Z h a "com/example/stickler/stickler/assignment/NodeQueue" "size" "I" (.int (1 : Int32)) ∧ Fld Z h a "com/example/stickler/stickler/assignment/NodeQueue" "offers" "J" (.long (of + (1 : Int64))) ∧ own_Ar Z h ha kh .int ((H.set 0 (.int nd)).set 0 (.int nd)) ∧ own_Ar Z h pa kp .int ((P.set (nd).toNatClampNeg (.int (0 : Int32))).set (nd).toNatClampNeg (.int (0 : Int32))) ∧ own_Ar Z h oa ko .long (O.set (nd).toNatClampNeg (.long (of + (1 : Int64))))
set_option maxRecDepth 65536 in
set_option maxHeartbeats 40000000 in
theorem own_rmofA (l : Launch) (Z : State) (a0 : Array Value) (hw : ∀ d ∈ tables_1, d.before a0 Z = true) (ws : List Jvm.Cond) (a : Addr) (da : Addr) (ha : Addr) (pa : Addr) (oa : Addr) (kd : ClassId) (kh : ClassId) (kp : ClassId) (ko : ClassId) (D : List Value) (H : List Value) (P : List Value) (O : List Value) (nd : Int32) (of : Int64) (h0 : Heap) (n0 : Nat) (Z0 : n0 ≤ h0.size) (P0 : Exa Z h0 a "com/example/stickler/stickler/assignment/NodeQueue") (P1 : Fld Z h0 a "com/example/stickler/stickler/assignment/NodeQueue" "distance" "[J" (.ref da)) (P2 : Fld Z h0 a "com/example/stickler/stickler/assignment/NodeQueue" "heap" "[I" (.ref ha)) (P3 : Fld Z h0 a "com/example/stickler/stickler/assignment/NodeQueue" "place" "[I" (.ref pa)) (P4 : Fld Z h0 a "com/example/stickler/stickler/assignment/NodeQueue" "offered" "[J" (.ref oa)) (P5 : Fld Z h0 a "com/example/stickler/stickler/assignment/NodeQueue" "size" "I" (.int (0 : Int32))) (P6 : Fld Z h0 a "com/example/stickler/stickler/assignment/NodeQueue" "offers" "J" (.long of)) (P7 : own_Ar Z h0 da kd .long D) (P8 : own_Ar Z h0 ha kh .int H) (P9 : own_Ar Z h0 pa kp .int P) (P10 : own_Ar Z h0 oa ko .long O) (G_a : n0 ≤ a) (G_ha : n0 ≤ ha) (G_pa : n0 ≤ pa) (G_oa : n0 ≤ oa) (NE_a_da : a ≠ da) (NE_a_ha : a ≠ ha) (NE_a_pa : a ≠ pa) (NE_a_oa : a ≠ oa) (NE_da_ha : da ≠ ha) (NE_da_pa : da ≠ pa) (NE_da_oa : da ≠ oa) (NE_ha_pa : ha ≠ pa) (NE_ha_oa : ha ≠ oa) (NE_pa_oa : pa ≠ oa) (hn0 : ¬ nd < (0 : Int32)) (hnP : (nd).toNatClampNeg < P.length) (hnO : (nd).toNatClampNeg < O.length) (hpv : P[(nd).toNatClampNeg]? = some (.int (-1 : Int32))) (hH : 0 < H.length) :
    MetFree l own_y6 (head1 (Jvm.Cond.code own_y6 prog_8_method_3_code 2 none :: ws) ({ frames := 2, cells := 0, slots := 0, locals := 28 } : Room)) (fun az Uz => az = #[(.ref a), (.int nd)] ∧ Z.Warmed39 Uz.vm ∧ Uz.heap = h0) (fun _ _ _ _ _ => True) (fun _ U o U' => ∃ v L, o = .returned v ∧ own_QofA Z a da ha pa oa kd kh kp ko D H P O nd of h0 n0 v U'.heap L ∧ FrameEnd U o U' L ({ frames := 2, cells := 0, slots := 0, locals := 28 } : Room).cells ({ frames := 2, cells := 0, slots := 0, locals := 28 } : Room).slots) := by
  refine MetFree.of_bodySF own_pf_ofA hisR ?_
  intro p e s m args below meth c s₁ Bd hml0 hP hK
  obtain ⟨rfl, hZ, hh⟩ := hP
  have hx := Bd.exec
  have hby := Bd.bytes
  have hml : c.maxLocals = 2 := hml0
  have hown : s.vm.findClass "com/example/stickler/stickler/assignment/NodeQueue" = some m.cls := findClass_of_methodNamed Bd.named
  have hnm := (name_of_methodNamed Bd.named Bd.method).1
  have hlk : meth.locks = false := BodyLoose.notSynchronized Bd
  have hret := Bd.returns
  have X0 : Stand p l e ({ frames := 2, cells := 0, slots := 0, locals := 28 } : Room) s m #[(.ref a), (.int nd)] below meth c s₁ [] 0 0 := Stand.of_body Bd
  have e0 : s₁.heap = h0 := by rw [← hh, Bd.state]; rfl
  have N0 := Fr.nil n0
  show own_E p e below (own_K s (own_QofA Z a da ha pa oa kd kh kp ko D H P O nd of h0 n0) ({ frames := 2, cells := 0, slots := 0, locals := 28 } : Room).cells ({ frames := 2, cells := 0, slots := 0, locals := 28 } : Room).slots) s₁ (entryFrame m #[(.ref a), (.int nd)] 2)
  refine own_S (mkF m 0 #[rv a, iv nd] []) (fun _ k => castTop (own_ef_ofA m (a) (nd)) k) ?_
  refine own_S (mkF m 1 #[rv a, iv nd] [(.ref a)]) (fun _ k => XS.aloadN X0.here hx rfl (hb hby d6_0) rfl rfl k) ?_
  obtain ⟨T1, X1, e1, st1⟩ := getF X0 hx hZ hown (host := "") (Or.inl (own_g hw (i := 17) rfl)) Via.refl e0 P4 (g := (mkF m 1 #[rv a, iv nd] [(.ref a)])) rfl rfl (hb hby d6_1)
  refine own_S (mkF m 4 #[rv a, iv nd] [(.ref oa)]) st1 ?_
  refine own_S (mkF m 5 #[rv a, iv nd] [(.int nd), (.ref oa)]) (fun _ k => XS.iloadN X1.here hx rfl (hb hby d6_4) rfl k) ?_
  refine own_S (mkF m 6 #[rv a, iv nd] [(.ref a), (.int nd), (.ref oa)]) (fun _ k => XS.aloadN X1.here hx rfl (hb hby d6_5) rfl rfl k) ?_
  refine own_S (mkF m 7 #[rv a, iv nd] [(.ref a), (.ref a), (.int nd), (.ref oa)]) (fun _ k => XS.dup X1.here hx rfl (hb hby d6_6) rfl rfl k) ?_
  obtain ⟨T2, X2, e2, st2⟩ := getF X1 hx hZ hown (host := "") (Or.inl (own_g hw (i := 41) rfl)) Via.refl e1 P6 (g := (mkF m 7 #[rv a, iv nd] [(.ref a), (.ref a), (.int nd), (.ref oa)])) rfl rfl (hb hby d6_7)
  refine own_S (mkF m 10 #[rv a, iv nd] [(.long of), (.ref a), (.int nd), (.ref oa)]) st2 ?_
  refine own_S (mkF m 11 #[rv a, iv nd] [(.long 1), (.long of), (.ref a), (.int nd), (.ref oa)]) (fun _ k => XS.lconst X2.here hx rfl (hb hby d6_10) k) ?_
  refine own_S (mkF m 12 #[rv a, iv nd] [(.long (of + (1 : Int64))), (.ref a), (.int nd), (.ref oa)]) (fun _ k => XS.ladd X2.here hx rfl (hb hby d6_11) rfl k) ?_
  refine own_S (mkF m 13 #[rv a, iv nd] [(.long (of + (1 : Int64))), (.ref a), (.long (of + (1 : Int64))), (.int nd), (.ref oa)]) (fun _ k => own_dup2x1 X2.here hx rfl (hb hby d6_12) rfl rfl k) ?_
  obtain ⟨T3, h3, X3, e3, W3, st3⟩ := putF X2 hx hZ hown (host := "") (Or.inl (own_g hw (i := 41) rfl)) Via.refl e2 P6 P0 (Or.inl (own_g hw (i := 42) rfl)) (own_g hw (i := 2) rfl) (ty := .long) (by decide) rfl rfl (g := (mkF m 13 #[rv a, iv nd] [(.long (of + (1 : Int64))), (.ref a), (.long (of + (1 : Int64))), (.int nd), (.ref oa)])) rfl rfl (hb hby d6_13)
  refine own_S (mkF m 16 #[rv a, iv nd] [(.long (of + (1 : Int64))), (.int nd), (.ref oa)]) st3 ?_
  have F4 := P0.wr W3
  have F5 := P1.other W3 (Or.inr (slot_ne (Or.inr (own_g hw (i := 11) rfl)) (Or.inl (own_g hw (i := 42) rfl)) (by decide) (t := (.array .long)) (t' := .long) (by decide) (by decide)))
  have F6 := P2.other W3 (Or.inr (slot_ne (Or.inr (own_g hw (i := 14) rfl)) (Or.inl (own_g hw (i := 42) rfl)) (by decide) (t := (.array .int)) (t' := .long) (by decide) (by decide)))
  have F7 := P3.other W3 (Or.inr (slot_ne (Or.inr (own_g hw (i := 16) rfl)) (Or.inl (own_g hw (i := 42) rfl)) (by decide) (t := (.array .int)) (t' := .long) (by decide) (by decide)))
  have F8 := P4.other W3 (Or.inr (slot_ne (Or.inr (own_g hw (i := 18) rfl)) (Or.inl (own_g hw (i := 42) rfl)) (by decide) (t := (.array .long)) (t' := .long) (by decide) (by decide)))
  have F9 := P5.other W3 (Or.inr (slot_ne (Or.inl (own_g hw (i := 29) rfl)) (Or.inl (own_g hw (i := 42) rfl)) (by decide) (t := .int) (t' := .long) (by decide) (by decide)))
  have F10 := P6.same W3
  have F11 := P7.other W3 (Ne.symm NE_a_da)
  have F12 := P8.other W3 (Ne.symm NE_a_ha)
  have F13 := P9.other W3 (Ne.symm NE_a_pa)
  have F14 := P10.other W3 (Ne.symm NE_a_oa)
  have N3 := Fr.snoc X3 N0 G_a
  have Z3 : n0 ≤ h3.size := by rw [Wr.size W3]; exact Z0
  have K3 : Keep h0 h3 [a, ha, pa, oa] := (Keep.refl _ _).wr W3 (Or.inl (List.mem_of_getElem? (i := 0) rfl))
  obtain ⟨T15, h15, X15, e15, W15, AR15, st15⟩ := own_stJ (j := nd) X3 hx hZ e3 F14 hn0 hnO (g := (mkF m 16 #[rv a, iv nd] [(.long (of + (1 : Int64))), (.int nd), (.ref oa)])) rfl rfl (hb hby d6_16)
  refine own_S (mkF m 17 #[rv a, iv nd] []) st15 ?_
  have F16 := F4.wr W15
  have F17 := F5.other W15 (Or.inl NE_a_oa)
  have F18 := F6.other W15 (Or.inl NE_a_oa)
  have F19 := F7.other W15 (Or.inl NE_a_oa)
  have F20 := F8.other W15 (Or.inl NE_a_oa)
  have F21 := F9.other W15 (Or.inl NE_a_oa)
  have F22 := F10.other W15 (Or.inl NE_a_oa)
  have F23 := F11.other W15 NE_da_oa
  have F24 := F12.other W15 NE_ha_oa
  have F25 := F13.other W15 NE_pa_oa
  have F26 : own_Ar Z h15 oa ko .long (O.set (nd).toNatClampNeg (.long (of + (1 : Int64)))) := AR15
  have N15 := Fr.snoc X15 N3 G_oa
  have Z15 : n0 ≤ h15.size := by rw [Wr.size W15]; exact Z3
  have K15 : Keep h0 h15 [a, ha, pa, oa] := K3.wr W15 (Or.inl (List.mem_of_getElem? (i := 3) rfl))
  refine own_S (mkF m 18 #[rv a, iv nd] [(.ref a)]) (fun _ k => XS.aloadN X15.here hx rfl (hb hby d6_17) rfl rfl k) ?_
  obtain ⟨T27, X27, e27, st27⟩ := getF X15 hx hZ hown (host := "") (Or.inl (own_g hw (i := 15) rfl)) Via.refl e15 F19 (g := (mkF m 18 #[rv a, iv nd] [(.ref a)])) rfl rfl (hb hby d6_18)
  refine own_S (mkF m 21 #[rv a, iv nd] [(.ref pa)]) st27 ?_
  refine own_S (mkF m 22 #[rv a, iv nd] [(.int nd), (.ref pa)]) (fun _ k => XS.iloadN X27.here hx rfl (hb hby d6_21) rfl k) ?_
  refine own_S (mkF m 23 #[rv a, iv nd] [(.int (-1))]) (fun _ k => own_ldI (j := nd) (v := (.int (-1))) X27 hx hZ e27 F25 hn0 hpv (g := (mkF m 22 #[rv a, iv nd] [(.int nd), (.ref pa)])) rfl rfl (hb hby d6_22) _ k) ?_
  have hc28 : (-1 : Int32) < (0 : Int32) := by decide
  refine own_S (mkF m 26 #[rv a, iv nd] []) (fun _ k => XS.ifNo X27.here hx rfl (hb hby d6_23) rfl ((if0 _ _).trans (tlt hc28).2.1) k) ?_
  refine own_S (mkF m 27 #[rv a, iv nd] [(.ref a)]) (fun _ k => XS.aloadN X27.here hx rfl (hb hby d6_26) rfl rfl k) ?_
  obtain ⟨T29, X29, e29, st29⟩ := getF X27 hx hZ hown (host := "") (Or.inl (own_g hw (i := 13) rfl)) Via.refl e27 F18 (g := (mkF m 27 #[rv a, iv nd] [(.ref a)])) rfl rfl (hb hby d6_27)
  refine own_S (mkF m 30 #[rv a, iv nd] [(.ref ha)]) st29 ?_
  refine own_S (mkF m 31 #[rv a, iv nd] [(.ref a), (.ref ha)]) (fun _ k => XS.aloadN X29.here hx rfl (hb hby d6_30) rfl rfl k) ?_
  obtain ⟨T30, X30, e30, st30⟩ := getF X29 hx hZ hown (host := "") (Or.inl (own_g hw (i := 28) rfl)) Via.refl e29 F21 (g := (mkF m 31 #[rv a, iv nd] [(.ref a), (.ref ha)])) rfl rfl (hb hby d6_31)
  refine own_S (mkF m 34 #[rv a, iv nd] [(.int 0), (.ref ha)]) st30 ?_
  refine own_S (mkF m 35 #[rv a, iv nd] [(.int nd), (.int 0), (.ref ha)]) (fun _ k => XS.iloadN X30.here hx rfl (hb hby d6_34) rfl k) ?_
  obtain ⟨T31, h31, X31, e31, W31, AR31, st31⟩ := own_stI (j := (0 : Int32)) X30 hx hZ e30 F24 (by decide) hH (g := (mkF m 35 #[rv a, iv nd] [(.int nd), (.int 0), (.ref ha)])) rfl rfl (hb hby d6_35)
  refine own_S (mkF m 36 #[rv a, iv nd] []) st31 ?_
  have F32 := F16.wr W31
  have F33 := F17.other W31 (Or.inl NE_a_ha)
  have F34 := F18.other W31 (Or.inl NE_a_ha)
  have F35 := F19.other W31 (Or.inl NE_a_ha)
  have F36 := F20.other W31 (Or.inl NE_a_ha)
  have F37 := F21.other W31 (Or.inl NE_a_ha)
  have F38 := F22.other W31 (Or.inl NE_a_ha)
  have F39 := F23.other W31 NE_da_ha
  have F40 := F25.other W31 (Ne.symm NE_ha_pa)
  have F41 := F26.other W31 (Ne.symm NE_ha_oa)
  have F42 : own_Ar Z h31 ha kh .int (H.set 0 (.int nd)) := AR31
  have N31 := Fr.snoc X31 N15 G_ha
  have Z31 : n0 ≤ h31.size := by rw [Wr.size W31]; exact Z15
  have K31 : Keep h0 h31 [a, ha, pa, oa] := K15.wr W31 (Or.inl (List.mem_of_getElem? (i := 1) rfl))
  refine own_S (mkF m 37 #[rv a, iv nd] [(.ref a)]) (fun _ k => XS.aloadN X31.here hx rfl (hb hby d6_36) rfl rfl k) ?_
  obtain ⟨T43, X43, e43, st43⟩ := getF X31 hx hZ hown (host := "") (Or.inl (own_g hw (i := 15) rfl)) Via.refl e31 F35 (g := (mkF m 37 #[rv a, iv nd] [(.ref a)])) rfl rfl (hb hby d6_37)
  refine own_S (mkF m 40 #[rv a, iv nd] [(.ref pa)]) st43 ?_
  refine own_S (mkF m 41 #[rv a, iv nd] [(.int nd), (.ref pa)]) (fun _ k => XS.iloadN X43.here hx rfl (hb hby d6_40) rfl k) ?_
  refine own_S (mkF m 42 #[rv a, iv nd] [(.ref a), (.int nd), (.ref pa)]) (fun _ k => XS.aloadN X43.here hx rfl (hb hby d6_41) rfl rfl k) ?_
  refine own_S (mkF m 43 #[rv a, iv nd] [(.ref a), (.ref a), (.int nd), (.ref pa)]) (fun _ k => XS.dup X43.here hx rfl (hb hby d6_42) rfl rfl k) ?_
  obtain ⟨T44, X44, e44, st44⟩ := getF X43 hx hZ hown (host := "") (Or.inl (own_g hw (i := 28) rfl)) Via.refl e43 F37 (g := (mkF m 43 #[rv a, iv nd] [(.ref a), (.ref a), (.int nd), (.ref pa)])) rfl rfl (hb hby d6_43)
  refine own_S (mkF m 46 #[rv a, iv nd] [(.int 0), (.ref a), (.int nd), (.ref pa)]) st44 ?_
  refine own_S (mkF m 47 #[rv a, iv nd] [(.int 0), (.ref a), (.int 0), (.int nd), (.ref pa)]) (fun _ k => XS.dupX1 X44.here hx rfl (hb hby d6_46) rfl rfl rfl k) ?_
  refine own_S (mkF m 48 #[rv a, iv nd] [(.int 1), (.int 0), (.ref a), (.int 0), (.int nd), (.ref pa)]) (fun _ k => XS.iconst X44.here hx rfl (hb hby d6_47) k) ?_
  refine own_S (mkF m 49 #[rv a, iv nd] [(.int 1), (.ref a), (.int 0), (.int nd), (.ref pa)]) (fun _ k => XS.iadd X44.here hx rfl (hb hby d6_48) rfl k) ?_
  obtain ⟨T45, h45, X45, e45, W45, st45⟩ := putF X44 hx hZ hown (host := "") (Or.inl (own_g hw (i := 28) rfl)) Via.refl e44 F37 F32 (Or.inl (own_g hw (i := 29) rfl)) (own_g hw (i := 2) rfl) (ty := .int) (by decide) rfl rfl (g := (mkF m 49 #[rv a, iv nd] [(.int 1), (.ref a), (.int 0), (.int nd), (.ref pa)])) rfl rfl (hb hby d6_49)
  refine own_S (mkF m 52 #[rv a, iv nd] [(.int 0), (.int nd), (.ref pa)]) st45 ?_
  have F46 := F32.wr W45
  have F47 := F33.other W45 (Or.inr (slot_ne (Or.inr (own_g hw (i := 11) rfl)) (Or.inl (own_g hw (i := 29) rfl)) (by decide) (t := (.array .long)) (t' := .int) (by decide) (by decide)))
  have F48 := F34.other W45 (Or.inr (slot_ne (Or.inr (own_g hw (i := 14) rfl)) (Or.inl (own_g hw (i := 29) rfl)) (by decide) (t := (.array .int)) (t' := .int) (by decide) (by decide)))
  have F49 := F35.other W45 (Or.inr (slot_ne (Or.inr (own_g hw (i := 16) rfl)) (Or.inl (own_g hw (i := 29) rfl)) (by decide) (t := (.array .int)) (t' := .int) (by decide) (by decide)))
  have F50 := F36.other W45 (Or.inr (slot_ne (Or.inr (own_g hw (i := 18) rfl)) (Or.inl (own_g hw (i := 29) rfl)) (by decide) (t := (.array .long)) (t' := .int) (by decide) (by decide)))
  have F51 := F37.same W45
  have F52 := F38.other W45 (Or.inr (slot_ne (Or.inl (own_g hw (i := 42) rfl)) (Or.inl (own_g hw (i := 29) rfl)) (by decide) (t := .long) (t' := .int) (by decide) (by decide)))
  have F53 := F39.other W45 (Ne.symm NE_a_da)
  have F54 := F40.other W45 (Ne.symm NE_a_pa)
  have F55 := F41.other W45 (Ne.symm NE_a_oa)
  have F56 := F42.other W45 (Ne.symm NE_a_ha)
  have N45 := Fr.snoc X45 N31 G_a
  have Z45 : n0 ≤ h45.size := by rw [Wr.size W45]; exact Z31
  have K45 : Keep h0 h45 [a, ha, pa, oa] := K31.wr W45 (Or.inl (List.mem_of_getElem? (i := 0) rfl))
  obtain ⟨T57, h57, X57, e57, W57, AR57, st57⟩ := own_stI (j := nd) X45 hx hZ e45 F54 hn0 hnP (g := (mkF m 52 #[rv a, iv nd] [(.int 0), (.int nd), (.ref pa)])) rfl rfl (hb hby d6_52)
  refine own_S (mkF m 53 #[rv a, iv nd] []) st57 ?_
  have F58 := F46.wr W57
  have F59 := F47.other W57 (Or.inl NE_a_pa)
  have F60 := F48.other W57 (Or.inl NE_a_pa)
  have F61 := F49.other W57 (Or.inl NE_a_pa)
  have F62 := F50.other W57 (Or.inl NE_a_pa)
  have F63 := F51.other W57 (Or.inl NE_a_pa)
  have F64 := F52.other W57 (Or.inl NE_a_pa)
  have F65 := F53.other W57 NE_da_pa
  have F66 := F55.other W57 (Ne.symm NE_pa_oa)
  have F67 := F56.other W57 NE_ha_pa
  have F68 : own_Ar Z h57 pa kp .int (P.set (nd).toNatClampNeg (.int 0)) := AR57
  have N57 := Fr.snoc X57 N45 G_pa
  have Z57 : n0 ≤ h57.size := by rw [Wr.size W57]; exact Z45
  have K57 : Keep h0 h57 [a, ha, pa, oa] := K45.wr W57 (Or.inl (List.mem_of_getElem? (i := 2) rfl))
  refine own_S (mkF m 54 #[rv a, iv nd] [(.ref a)]) (fun _ k => XS.aloadN X57.here hx rfl (hb hby d6_53) rfl rfl k) ?_
  refine own_S (mkF m 55 #[rv a, iv nd] [(.ref a), (.ref a)]) (fun _ k => XS.aloadN X57.here hx rfl (hb hby d6_54) rfl rfl k) ?_
  obtain ⟨T69, X69, e69, st69⟩ := getF X57 hx hZ hown (host := "") (Or.inl (own_g hw (i := 15) rfl)) Via.refl e57 F61 (g := (mkF m 55 #[rv a, iv nd] [(.ref a), (.ref a)])) rfl rfl (hb hby d6_55)
  refine own_S (mkF m 58 #[rv a, iv nd] [(.ref pa), (.ref a)]) st69 ?_
  refine own_S (mkF m 59 #[rv a, iv nd] [(.int nd), (.ref pa), (.ref a)]) (fun _ k => XS.iloadN X69.here hx rfl (hb hby d6_58) rfl k) ?_
  refine own_S (mkF m 60 #[rv a, iv nd] [(.int 0), (.ref a)]) (fun _ k => own_ldI (j := nd) (v := (.int 0)) X69 hx hZ e69 F68 hn0 (own_set_at hnP) (g := (mkF m 59 #[rv a, iv nd] [(.int nd), (.ref pa), (.ref a)])) rfl rfl (hb hby d6_59) _ k) ?_
  obtain ⟨cq70, q70a, q70b⟩ := Exa.cell F58
  obtain ⟨_, _, ⟨T70, L70, k70, n70⟩, -, X70, ⟨Lc70, hQ70, l70, y70, z70⟩, st70⟩ := X69.privateBack hx (y := own_y5) hown (mvT hZ (own_g hw (i := 43) rfl)) (mvT hZ (own_g hw (i := 44) rfl)) (own_selP (mvT hZ (own_g hw (i := 2) rfl)) (Cond.privateMethod_at (mvP hZ (own_g hw (i := 45) rfl) (args := #[]))) (mvT hZ (own_g hw (i := 44) rfl)) (by decide)) (Cond.privateMethod_at (mvP hZ (own_g hw (i := 45) rfl) (args := #[]))) (mvT hZ (own_g hw (i := 46) rfl)) (by decide) (backOf (W := 0) (own_rmsu0 l Z a0 hw [] (a) (ha) (pa) (kh) (kp) ((H.set 0 (.int nd))) ((P.set (nd).toNatClampNeg (.int 0))) (nd) h57 n0 Z57 F58 F60 F61 F67 F68 G_ha G_pa NE_a_ha NE_a_pa NE_ha_pa (own_set_at hH) hn0 (by rw [List.length_set]; exact hnP)) hZ (own_g hw (i := 46) rfl) (own_g hw (i := 3) rfl) (by decide) (by decide)) (g := (mkF m 60 #[rv a, iv nd] [(.int 0), (.ref a)])) rfl (by rw [hml]; rfl) (Steps.refl _) (a := a) (by rw [e69]; exact q70a) q70b (argsL := [(.int 0)]) (rest := []) (lenOf own_pd__I_V rfl) rfl (by show 2 * 0 + _ ≤ _; exact Nat.le_of_eq rfl) (hb hby d6_60) (fun _ _ => ⟨rfl, e69, (by decide : 0 + 0 ≤ _), (by decide : 0 + 0 ≤ _)⟩)
  dsimp only [Pt.U, Pt.locs, Pt.cells, Pt.slots] at X70 l70 y70 z70 st70 hQ70
  subst l70 y70 z70
  obtain ⟨rfl, N70q, K70q, F71, F72⟩ := hQ70
  have N70 := Fr.app N57 N70q
  refine own_S (mkF m 63 #[rv a, iv nd] []) (fun _ k => st70.trans k) ?_
  have K70 : Keep h0 T70.heap [a, ha, pa, oa] := K57.trans K70q (allS (Or.inl (List.mem_of_getElem? (i := 1) rfl)) (allS (Or.inl (List.mem_of_getElem? (i := 2) rfl)) all0))
  have F73 := F58.keep K70q
  have F74 := F59.keep K70q (ninS NE_a_ha (ninS NE_a_pa nin0))
  have F75 := F60.keep K70q (ninS NE_a_ha (ninS NE_a_pa nin0))
  have F76 := F61.keep K70q (ninS NE_a_ha (ninS NE_a_pa nin0))
  have F77 := F62.keep K70q (ninS NE_a_ha (ninS NE_a_pa nin0))
  have F78 := F63.keep K70q (ninS NE_a_ha (ninS NE_a_pa nin0))
  have F79 := F64.keep K70q (ninS NE_a_ha (ninS NE_a_pa nin0))
  have F80 := F65.keep K70q (ninS NE_da_ha (ninS NE_da_pa nin0))
  have F81 := F66.keep K70q (ninS (Ne.symm NE_ha_oa) (ninS (Ne.symm NE_pa_oa) nin0))
  have Z70 : n0 ≤ T70.heap.size := Nat.le_trans Z57 K70q.1
  exact own_ret0 X70 hx hlk hret (hb hby d6_63) ⟨rfl, N70, K70, F73, F74, F75, F76, F77, F78, F79, F71, F72, F81⟩ (by decide) (by decide)
theorem own_pf_ofC : plainFor own_y6 = true := by first | exact plainFor_of_name (show plainName "com/example/stickler/stickler/assignment/NodeQueue" = true by first | (simp [plainName, overriddenIn]; done) | decide +kernel) | decide +kernel
theorem own_ef_ofC (m : MethodId) (y0 : Addr) (y1 : Int32) : entryFrame m #[(.ref y0), (.int y1)] 2 = mkF m 0 #[rv y0, iv y1] [] := by first | (simp [entryFrame, mkF, argsToLocals, Value.category]; done) | rfl
def own_QofC (Z : State) (a : Addr) (da : Addr) (ha : Addr) (pa : Addr) (oa : Addr) (kd : ClassId) (kh : ClassId) (kp : ClassId) (ko : ClassId) (D : List Value) (H : List Value) (P : List Value) (O : List Value) (nd : Int32) (of : Int64) (sz : Int32) (h0 : Heap) (n0 : Nat) (v : Option Value) (h : Heap) (L : List Loc) : Prop := v = none ∧ Fr n0 L ∧ Keep h0 h [a, ha, pa, oa] ∧ Exa Z h a "com/example/stickler/stickler/assignment/NodeQueue" ∧ Fld Z h a "com/example/stickler/stickler/assignment/NodeQueue" "distance" "[J" (.ref da) ∧ Fld Z h a "com/example/stickler/stickler/assignment/NodeQueue" "heap" "[I" (.ref ha) ∧ Fld Z h a "com/example/stickler/stickler/assignment/NodeQueue" "place" "[I" (.ref pa) ∧ Fld Z h a "com/example/stickler/stickler/assignment/NodeQueue" "offered" "[J" (.ref oa) ∧ Fld Z h a "com/example/stickler/stickler/assignment/NodeQueue" "size" "I" (.int sz) ∧ Fld Z h a "com/example/stickler/stickler/assignment/NodeQueue" "offers" "J" (.long (of + (1 : Int64))) ∧ own_Ar Z h ha kh .int (H.set 0 (.int nd)) ∧ own_Ar Z h pa kp .int (P.set (nd).toNatClampNeg (.int (0 : Int32))) ∧ own_Ar Z h oa ko .long (O.set (nd).toNatClampNeg (.long (of + (1 : Int64))))
set_option maxRecDepth 65536 in
set_option maxHeartbeats 40000000 in
theorem own_rmofC (l : Launch) (Z : State) (a0 : Array Value) (hw : ∀ d ∈ tables_1, d.before a0 Z = true) (ws : List Jvm.Cond) (a : Addr) (da : Addr) (ha : Addr) (pa : Addr) (oa : Addr) (kd : ClassId) (kh : ClassId) (kp : ClassId) (ko : ClassId) (D : List Value) (H : List Value) (P : List Value) (O : List Value) (nd : Int32) (of : Int64) (sz : Int32) (h0 : Heap) (n0 : Nat) (Z0 : n0 ≤ h0.size) (P0 : Exa Z h0 a "com/example/stickler/stickler/assignment/NodeQueue") (P1 : Fld Z h0 a "com/example/stickler/stickler/assignment/NodeQueue" "distance" "[J" (.ref da)) (P2 : Fld Z h0 a "com/example/stickler/stickler/assignment/NodeQueue" "heap" "[I" (.ref ha)) (P3 : Fld Z h0 a "com/example/stickler/stickler/assignment/NodeQueue" "place" "[I" (.ref pa)) (P4 : Fld Z h0 a "com/example/stickler/stickler/assignment/NodeQueue" "offered" "[J" (.ref oa)) (P5 : Fld Z h0 a "com/example/stickler/stickler/assignment/NodeQueue" "size" "I" (.int sz)) (P6 : Fld Z h0 a "com/example/stickler/stickler/assignment/NodeQueue" "offers" "J" (.long of)) (P7 : own_Ar Z h0 da kd .long D) (P8 : own_Ar Z h0 ha kh .int H) (P9 : own_Ar Z h0 pa kp .int P) (P10 : own_Ar Z h0 oa ko .long O) (G_a : n0 ≤ a) (G_ha : n0 ≤ ha) (G_pa : n0 ≤ pa) (G_oa : n0 ≤ oa) (NE_a_da : a ≠ da) (NE_a_ha : a ≠ ha) (NE_a_pa : a ≠ pa) (NE_a_oa : a ≠ oa) (NE_da_ha : da ≠ ha) (NE_da_pa : da ≠ pa) (NE_da_oa : da ≠ oa) (NE_ha_pa : ha ≠ pa) (NE_ha_oa : ha ≠ oa) (NE_pa_oa : pa ≠ oa) (hn0 : ¬ nd < (0 : Int32)) (hnP : (nd).toNatClampNeg < P.length) (hnO : (nd).toNatClampNeg < O.length) (hpv : P[(nd).toNatClampNeg]? = some (.int (0 : Int32))) (h0v : H[0]? = some (.int nd)) :
    MetFree l own_y6 (head1 (Jvm.Cond.code own_y6 prog_8_method_3_code 2 none :: ws) ({ frames := 2, cells := 0, slots := 0, locals := 28 } : Room)) (fun az Uz => az = #[(.ref a), (.int nd)] ∧ Z.Warmed39 Uz.vm ∧ Uz.heap = h0) (fun _ _ _ _ _ => True) (fun _ U o U' => ∃ v L, o = .returned v ∧ own_QofC Z a da ha pa oa kd kh kp ko D H P O nd of sz h0 n0 v U'.heap L ∧ FrameEnd U o U' L ({ frames := 2, cells := 0, slots := 0, locals := 28 } : Room).cells ({ frames := 2, cells := 0, slots := 0, locals := 28 } : Room).slots) := by
  refine MetFree.of_bodySF own_pf_ofC hisR ?_
  intro p e s m args below meth c s₁ Bd hml0 hP hK
  obtain ⟨rfl, hZ, hh⟩ := hP
  have hx := Bd.exec
  have hby := Bd.bytes
  have hml : c.maxLocals = 2 := hml0
  have hown : s.vm.findClass "com/example/stickler/stickler/assignment/NodeQueue" = some m.cls := findClass_of_methodNamed Bd.named
  have hnm := (name_of_methodNamed Bd.named Bd.method).1
  have hlk : meth.locks = false := BodyLoose.notSynchronized Bd
  have hret := Bd.returns
  have X0 : Stand p l e ({ frames := 2, cells := 0, slots := 0, locals := 28 } : Room) s m #[(.ref a), (.int nd)] below meth c s₁ [] 0 0 := Stand.of_body Bd
  have e0 : s₁.heap = h0 := by rw [← hh, Bd.state]; rfl
  have N0 := Fr.nil n0
  show own_E p e below (own_K s (own_QofC Z a da ha pa oa kd kh kp ko D H P O nd of sz h0 n0) ({ frames := 2, cells := 0, slots := 0, locals := 28 } : Room).cells ({ frames := 2, cells := 0, slots := 0, locals := 28 } : Room).slots) s₁ (entryFrame m #[(.ref a), (.int nd)] 2)
  refine own_S (mkF m 0 #[rv a, iv nd] []) (fun _ k => castTop (own_ef_ofC m (a) (nd)) k) ?_
  refine own_S (mkF m 1 #[rv a, iv nd] [(.ref a)]) (fun _ k => XS.aloadN X0.here hx rfl (hb hby d6_0) rfl rfl k) ?_
  obtain ⟨T1, X1, e1, st1⟩ := getF X0 hx hZ hown (host := "") (Or.inl (own_g hw (i := 17) rfl)) Via.refl e0 P4 (g := (mkF m 1 #[rv a, iv nd] [(.ref a)])) rfl rfl (hb hby d6_1)
  refine own_S (mkF m 4 #[rv a, iv nd] [(.ref oa)]) st1 ?_
  refine own_S (mkF m 5 #[rv a, iv nd] [(.int nd), (.ref oa)]) (fun _ k => XS.iloadN X1.here hx rfl (hb hby d6_4) rfl k) ?_
  refine own_S (mkF m 6 #[rv a, iv nd] [(.ref a), (.int nd), (.ref oa)]) (fun _ k => XS.aloadN X1.here hx rfl (hb hby d6_5) rfl rfl k) ?_
  refine own_S (mkF m 7 #[rv a, iv nd] [(.ref a), (.ref a), (.int nd), (.ref oa)]) (fun _ k => XS.dup X1.here hx rfl (hb hby d6_6) rfl rfl k) ?_
  obtain ⟨T2, X2, e2, st2⟩ := getF X1 hx hZ hown (host := "") (Or.inl (own_g hw (i := 41) rfl)) Via.refl e1 P6 (g := (mkF m 7 #[rv a, iv nd] [(.ref a), (.ref a), (.int nd), (.ref oa)])) rfl rfl (hb hby d6_7)
  refine own_S (mkF m 10 #[rv a, iv nd] [(.long of), (.ref a), (.int nd), (.ref oa)]) st2 ?_
  refine own_S (mkF m 11 #[rv a, iv nd] [(.long 1), (.long of), (.ref a), (.int nd), (.ref oa)]) (fun _ k => XS.lconst X2.here hx rfl (hb hby d6_10) k) ?_
  refine own_S (mkF m 12 #[rv a, iv nd] [(.long (of + (1 : Int64))), (.ref a), (.int nd), (.ref oa)]) (fun _ k => XS.ladd X2.here hx rfl (hb hby d6_11) rfl k) ?_
  refine own_S (mkF m 13 #[rv a, iv nd] [(.long (of + (1 : Int64))), (.ref a), (.long (of + (1 : Int64))), (.int nd), (.ref oa)]) (fun _ k => own_dup2x1 X2.here hx rfl (hb hby d6_12) rfl rfl k) ?_
  obtain ⟨T3, h3, X3, e3, W3, st3⟩ := putF X2 hx hZ hown (host := "") (Or.inl (own_g hw (i := 41) rfl)) Via.refl e2 P6 P0 (Or.inl (own_g hw (i := 42) rfl)) (own_g hw (i := 2) rfl) (ty := .long) (by decide) rfl rfl (g := (mkF m 13 #[rv a, iv nd] [(.long (of + (1 : Int64))), (.ref a), (.long (of + (1 : Int64))), (.int nd), (.ref oa)])) rfl rfl (hb hby d6_13)
  refine own_S (mkF m 16 #[rv a, iv nd] [(.long (of + (1 : Int64))), (.int nd), (.ref oa)]) st3 ?_
  have F4 := P0.wr W3
  have F5 := P1.other W3 (Or.inr (slot_ne (Or.inr (own_g hw (i := 11) rfl)) (Or.inl (own_g hw (i := 42) rfl)) (by decide) (t := (.array .long)) (t' := .long) (by decide) (by decide)))
  have F6 := P2.other W3 (Or.inr (slot_ne (Or.inr (own_g hw (i := 14) rfl)) (Or.inl (own_g hw (i := 42) rfl)) (by decide) (t := (.array .int)) (t' := .long) (by decide) (by decide)))
  have F7 := P3.other W3 (Or.inr (slot_ne (Or.inr (own_g hw (i := 16) rfl)) (Or.inl (own_g hw (i := 42) rfl)) (by decide) (t := (.array .int)) (t' := .long) (by decide) (by decide)))
  have F8 := P4.other W3 (Or.inr (slot_ne (Or.inr (own_g hw (i := 18) rfl)) (Or.inl (own_g hw (i := 42) rfl)) (by decide) (t := (.array .long)) (t' := .long) (by decide) (by decide)))
  have F9 := P5.other W3 (Or.inr (slot_ne (Or.inl (own_g hw (i := 29) rfl)) (Or.inl (own_g hw (i := 42) rfl)) (by decide) (t := .int) (t' := .long) (by decide) (by decide)))
  have F10 := P6.same W3
  have F11 := P7.other W3 (Ne.symm NE_a_da)
  have F12 := P8.other W3 (Ne.symm NE_a_ha)
  have F13 := P9.other W3 (Ne.symm NE_a_pa)
  have F14 := P10.other W3 (Ne.symm NE_a_oa)
  have N3 := Fr.snoc X3 N0 G_a
  have Z3 : n0 ≤ h3.size := by rw [Wr.size W3]; exact Z0
  have K3 : Keep h0 h3 [a, ha, pa, oa] := (Keep.refl _ _).wr W3 (Or.inl (List.mem_of_getElem? (i := 0) rfl))
  obtain ⟨T15, h15, X15, e15, W15, AR15, st15⟩ := own_stJ (j := nd) X3 hx hZ e3 F14 hn0 hnO (g := (mkF m 16 #[rv a, iv nd] [(.long (of + (1 : Int64))), (.int nd), (.ref oa)])) rfl rfl (hb hby d6_16)
  refine own_S (mkF m 17 #[rv a, iv nd] []) st15 ?_
  have F16 := F4.wr W15
  have F17 := F5.other W15 (Or.inl NE_a_oa)
  have F18 := F6.other W15 (Or.inl NE_a_oa)
  have F19 := F7.other W15 (Or.inl NE_a_oa)
  have F20 := F8.other W15 (Or.inl NE_a_oa)
  have F21 := F9.other W15 (Or.inl NE_a_oa)
  have F22 := F10.other W15 (Or.inl NE_a_oa)
  have F23 := F11.other W15 NE_da_oa
  have F24 := F12.other W15 NE_ha_oa
  have F25 := F13.other W15 NE_pa_oa
  have F26 : own_Ar Z h15 oa ko .long (O.set (nd).toNatClampNeg (.long (of + (1 : Int64)))) := AR15
  have N15 := Fr.snoc X15 N3 G_oa
  have Z15 : n0 ≤ h15.size := by rw [Wr.size W15]; exact Z3
  have K15 : Keep h0 h15 [a, ha, pa, oa] := K3.wr W15 (Or.inl (List.mem_of_getElem? (i := 3) rfl))
  refine own_S (mkF m 18 #[rv a, iv nd] [(.ref a)]) (fun _ k => XS.aloadN X15.here hx rfl (hb hby d6_17) rfl rfl k) ?_
  obtain ⟨T27, X27, e27, st27⟩ := getF X15 hx hZ hown (host := "") (Or.inl (own_g hw (i := 15) rfl)) Via.refl e15 F19 (g := (mkF m 18 #[rv a, iv nd] [(.ref a)])) rfl rfl (hb hby d6_18)
  refine own_S (mkF m 21 #[rv a, iv nd] [(.ref pa)]) st27 ?_
  refine own_S (mkF m 22 #[rv a, iv nd] [(.int nd), (.ref pa)]) (fun _ k => XS.iloadN X27.here hx rfl (hb hby d6_21) rfl k) ?_
  refine own_S (mkF m 23 #[rv a, iv nd] [(.int 0)]) (fun _ k => own_ldI (j := nd) (v := (.int 0)) X27 hx hZ e27 F25 hn0 hpv (g := (mkF m 22 #[rv a, iv nd] [(.int nd), (.ref pa)])) rfl rfl (hb hby d6_22) _ k) ?_
  have hc28 : ¬ ((0 : Int32) < (0 : Int32)) := by decide
  refine own_S (mkF m 53 #[rv a, iv nd] []) (fun _ k => XS.ifYes X27.here hx rfl (pc0 := 23) (pc' := 53) rfl (hb hby d6_23) rfl ((if0 _ _).trans (flt hc28).2.1) (by decide) (by decide) k) ?_
  refine own_S (mkF m 54 #[rv a, iv nd] [(.ref a)]) (fun _ k => XS.aloadN X27.here hx rfl (hb hby d6_53) rfl rfl k) ?_
  refine own_S (mkF m 55 #[rv a, iv nd] [(.ref a), (.ref a)]) (fun _ k => XS.aloadN X27.here hx rfl (hb hby d6_54) rfl rfl k) ?_
  obtain ⟨T29, X29, e29, st29⟩ := getF X27 hx hZ hown (host := "") (Or.inl (own_g hw (i := 15) rfl)) Via.refl e27 F19 (g := (mkF m 55 #[rv a, iv nd] [(.ref a), (.ref a)])) rfl rfl (hb hby d6_55)
  refine own_S (mkF m 58 #[rv a, iv nd] [(.ref pa), (.ref a)]) st29 ?_
  refine own_S (mkF m 59 #[rv a, iv nd] [(.int nd), (.ref pa), (.ref a)]) (fun _ k => XS.iloadN X29.here hx rfl (hb hby d6_58) rfl k) ?_
  refine own_S (mkF m 60 #[rv a, iv nd] [(.int 0), (.ref a)]) (fun _ k => own_ldI (j := nd) (v := (.int 0)) X29 hx hZ e29 F25 hn0 hpv (g := (mkF m 59 #[rv a, iv nd] [(.int nd), (.ref pa), (.ref a)])) rfl rfl (hb hby d6_59) _ k) ?_
  obtain ⟨cq30, q30a, q30b⟩ := Exa.cell F16
  obtain ⟨_, _, ⟨T30, L30, k30, n30⟩, -, X30, ⟨Lc30, hQ30, l30, y30, z30⟩, st30⟩ := X29.privateBack hx (y := own_y5) hown (mvT hZ (own_g hw (i := 43) rfl)) (mvT hZ (own_g hw (i := 44) rfl)) (own_selP (mvT hZ (own_g hw (i := 2) rfl)) (Cond.privateMethod_at (mvP hZ (own_g hw (i := 45) rfl) (args := #[]))) (mvT hZ (own_g hw (i := 44) rfl)) (by decide)) (Cond.privateMethod_at (mvP hZ (own_g hw (i := 45) rfl) (args := #[]))) (mvT hZ (own_g hw (i := 46) rfl)) (by decide) (backOf (W := 0) (own_rmsu0 l Z a0 hw [] (a) (ha) (pa) (kh) (kp) (H) (P) (nd) h15 n0 Z15 F16 F18 F19 F24 F25 G_ha G_pa NE_a_ha NE_a_pa NE_ha_pa h0v hn0 hnP) hZ (own_g hw (i := 46) rfl) (own_g hw (i := 3) rfl) (by decide) (by decide)) (g := (mkF m 60 #[rv a, iv nd] [(.int 0), (.ref a)])) rfl (by rw [hml]; rfl) (Steps.refl _) (a := a) (by rw [e29]; exact q30a) q30b (argsL := [(.int 0)]) (rest := []) (lenOf own_pd__I_V rfl) rfl (by show 2 * 0 + _ ≤ _; exact Nat.le_of_eq rfl) (hb hby d6_60) (fun _ _ => ⟨rfl, e29, (by decide : 0 + 0 ≤ _), (by decide : 0 + 0 ≤ _)⟩)
  dsimp only [Pt.U, Pt.locs, Pt.cells, Pt.slots] at X30 l30 y30 z30 st30 hQ30
  subst l30 y30 z30
  obtain ⟨rfl, N30q, K30q, F31, F32⟩ := hQ30
  have N30 := Fr.app N15 N30q
  refine own_S (mkF m 63 #[rv a, iv nd] []) (fun _ k => st30.trans k) ?_
  have K30 : Keep h0 T30.heap [a, ha, pa, oa] := K15.trans K30q (allS (Or.inl (List.mem_of_getElem? (i := 1) rfl)) (allS (Or.inl (List.mem_of_getElem? (i := 2) rfl)) all0))
  have F33 := F16.keep K30q
  have F34 := F17.keep K30q (ninS NE_a_ha (ninS NE_a_pa nin0))
  have F35 := F18.keep K30q (ninS NE_a_ha (ninS NE_a_pa nin0))
  have F36 := F19.keep K30q (ninS NE_a_ha (ninS NE_a_pa nin0))
  have F37 := F20.keep K30q (ninS NE_a_ha (ninS NE_a_pa nin0))
  have F38 := F21.keep K30q (ninS NE_a_ha (ninS NE_a_pa nin0))
  have F39 := F22.keep K30q (ninS NE_a_ha (ninS NE_a_pa nin0))
  have F40 := F23.keep K30q (ninS NE_da_ha (ninS NE_da_pa nin0))
  have F41 := F26.keep K30q (ninS (Ne.symm NE_ha_oa) (ninS (Ne.symm NE_pa_oa) nin0))
  have Z30 : n0 ≤ T30.heap.size := Nat.le_trans Z15 K30q.1
  exact own_ret0 X30 hx hlk hret (hb hby d6_63) ⟨rfl, N30, K30, F33, F34, F35, F36, F37, F38, F39, F31, F32, F41⟩ (by decide) (by decide)
theorem own_pf_of1m : plainFor own_y6 = true := by first | exact plainFor_of_name (show plainName "com/example/stickler/stickler/assignment/NodeQueue" = true by first | (simp [plainName, overriddenIn]; done) | decide +kernel) | decide +kernel
theorem own_ef_of1m (m : MethodId) (y0 : Addr) (y1 : Int32) : entryFrame m #[(.ref y0), (.int y1)] 2 = mkF m 0 #[rv y0, iv y1] [] := by first | (simp [entryFrame, mkF, argsToLocals, Value.category]; done) | rfl
def own_Qof1m (Z : State) (a : Addr) (da : Addr) (ha : Addr) (pa : Addr) (oa : Addr) (kd : ClassId) (kh : ClassId) (kp : ClassId) (ko : ClassId) (D : List Value) (H : List Value) (P : List Value) (O : List Value) (nd : Int32) (xx : Int32) (of : Int64) (dn : Int64) (dx : Int64) (ox : Int64) (h0 : Heap) (n0 : Nat) (v : Option Value) (h : Heap) (L : List Loc) : Prop := v = none ∧ Fr n0 L ∧ Keep h0 h [a, ha, pa, oa] ∧ Exa Z h a "com/example/stickler/stickler/assignment/NodeQueue" ∧ Fld Z h a "com/example/stickler/stickler/assignment/NodeQueue" "distance" "[J" (.ref da) ∧ Fld Z h a "com/example/stickler/stickler/assignment/NodeQueue" "heap" "[I" (.ref ha) ∧ Fld Z h a "com/example/stickler/stickler/assignment/NodeQueue" "place" "[I" (.ref pa) ∧ Fld Z h a "com/example/stickler/stickler/assignment/NodeQueue" "offered" "[J" (.ref oa) ∧ Fld Z h a "com/example/stickler/stickler/assignment/NodeQueue" "size" "I" (.int (2 : Int32)) ∧ Fld Z h a "com/example/stickler/stickler/assignment/NodeQueue" "offers" "J" (.long (of + (1 : Int64))) ∧ own_Ar Z h ha kh .int (((H.set 1 (.int nd)).set 1 (.int xx)).set 0 (.int nd)) ∧ own_Ar Z h pa kp .int (((P.set (nd).toNatClampNeg (.int (1 : Int32))).set (xx).toNatClampNeg (.int (1 : Int32))).set (nd).toNatClampNeg (.int (0 : Int32))) ∧ own_Ar Z h oa ko .long (O.set (nd).toNatClampNeg (.long (of + (1 : Int64))))
set_option maxRecDepth 65536 in
set_option maxHeartbeats 40000000 in
theorem own_rmof1m (l : Launch) (Z : State) (a0 : Array Value) (hw : ∀ d ∈ tables_1, d.before a0 Z = true) (ws : List Jvm.Cond) (a : Addr) (da : Addr) (ha : Addr) (pa : Addr) (oa : Addr) (kd : ClassId) (kh : ClassId) (kp : ClassId) (ko : ClassId) (D : List Value) (H : List Value) (P : List Value) (O : List Value) (nd : Int32) (xx : Int32) (of : Int64) (dn : Int64) (dx : Int64) (ox : Int64) (h0 : Heap) (n0 : Nat) (Z0 : n0 ≤ h0.size) (P0 : Exa Z h0 a "com/example/stickler/stickler/assignment/NodeQueue") (P1 : Fld Z h0 a "com/example/stickler/stickler/assignment/NodeQueue" "distance" "[J" (.ref da)) (P2 : Fld Z h0 a "com/example/stickler/stickler/assignment/NodeQueue" "heap" "[I" (.ref ha)) (P3 : Fld Z h0 a "com/example/stickler/stickler/assignment/NodeQueue" "place" "[I" (.ref pa)) (P4 : Fld Z h0 a "com/example/stickler/stickler/assignment/NodeQueue" "offered" "[J" (.ref oa)) (P5 : Fld Z h0 a "com/example/stickler/stickler/assignment/NodeQueue" "size" "I" (.int (1 : Int32))) (P6 : Fld Z h0 a "com/example/stickler/stickler/assignment/NodeQueue" "offers" "J" (.long of)) (P7 : own_Ar Z h0 da kd .long D) (P8 : own_Ar Z h0 ha kh .int H) (P9 : own_Ar Z h0 pa kp .int P) (P10 : own_Ar Z h0 oa ko .long O) (G_a : n0 ≤ a) (G_ha : n0 ≤ ha) (G_pa : n0 ≤ pa) (G_oa : n0 ≤ oa) (NE_a_da : a ≠ da) (NE_a_ha : a ≠ ha) (NE_a_pa : a ≠ pa) (NE_a_oa : a ≠ oa) (NE_da_ha : da ≠ ha) (NE_da_pa : da ≠ pa) (NE_da_oa : da ≠ oa) (NE_ha_pa : ha ≠ pa) (NE_ha_oa : ha ≠ oa) (NE_pa_oa : pa ≠ oa) (hn0 : ¬ nd < (0 : Int32)) (hnP : (nd).toNatClampNeg < P.length) (hnO : (nd).toNatClampNeg < O.length) (hpv : P[(nd).toNatClampNeg]? = some (.int (-1 : Int32))) (hH : 1 < H.length) (h0v : H[0]? = some (.int xx)) (hx0 : ¬ xx < (0 : Int32)) (hxP : (xx).toNatClampNeg < P.length) (hxn : (xx).toNatClampNeg ≠ (nd).toNatClampNeg) (hdx : D[(nd).toNatClampNeg]? = some (.long dn)) (hdy : D[(xx).toNatClampNeg]? = some (.long dx)) (hoy : O[(xx).toNatClampNeg]? = some (.long ox)) (hB : (dn < dx ∨ (dn = dx ∧ ox < (of + (1 : Int64))))) :
    MetFree l own_y6 (head1 (Jvm.Cond.code own_y6 prog_8_method_3_code 2 none :: ws) ({ frames := 2, cells := 0, slots := 0, locals := 28 } : Room)) (fun az Uz => az = #[(.ref a), (.int nd)] ∧ Z.Warmed39 Uz.vm ∧ Uz.heap = h0) (fun _ _ _ _ _ => True) (fun _ U o U' => ∃ v L, o = .returned v ∧ own_Qof1m Z a da ha pa oa kd kh kp ko D H P O nd xx of dn dx ox h0 n0 v U'.heap L ∧ FrameEnd U o U' L ({ frames := 2, cells := 0, slots := 0, locals := 28 } : Room).cells ({ frames := 2, cells := 0, slots := 0, locals := 28 } : Room).slots) := by
  refine MetFree.of_bodySF own_pf_of1m hisR ?_
  intro p e s m args below meth c s₁ Bd hml0 hP hK
  obtain ⟨rfl, hZ, hh⟩ := hP
  have hx := Bd.exec
  have hby := Bd.bytes
  have hml : c.maxLocals = 2 := hml0
  have hown : s.vm.findClass "com/example/stickler/stickler/assignment/NodeQueue" = some m.cls := findClass_of_methodNamed Bd.named
  have hnm := (name_of_methodNamed Bd.named Bd.method).1
  have hlk : meth.locks = false := BodyLoose.notSynchronized Bd
  have hret := Bd.returns
  have X0 : Stand p l e ({ frames := 2, cells := 0, slots := 0, locals := 28 } : Room) s m #[(.ref a), (.int nd)] below meth c s₁ [] 0 0 := Stand.of_body Bd
  have e0 : s₁.heap = h0 := by rw [← hh, Bd.state]; rfl
  have N0 := Fr.nil n0
  show own_E p e below (own_K s (own_Qof1m Z a da ha pa oa kd kh kp ko D H P O nd xx of dn dx ox h0 n0) ({ frames := 2, cells := 0, slots := 0, locals := 28 } : Room).cells ({ frames := 2, cells := 0, slots := 0, locals := 28 } : Room).slots) s₁ (entryFrame m #[(.ref a), (.int nd)] 2)
  refine own_S (mkF m 0 #[rv a, iv nd] []) (fun _ k => castTop (own_ef_of1m m (a) (nd)) k) ?_
  refine own_S (mkF m 1 #[rv a, iv nd] [(.ref a)]) (fun _ k => XS.aloadN X0.here hx rfl (hb hby d6_0) rfl rfl k) ?_
  obtain ⟨T1, X1, e1, st1⟩ := getF X0 hx hZ hown (host := "") (Or.inl (own_g hw (i := 17) rfl)) Via.refl e0 P4 (g := (mkF m 1 #[rv a, iv nd] [(.ref a)])) rfl rfl (hb hby d6_1)
  refine own_S (mkF m 4 #[rv a, iv nd] [(.ref oa)]) st1 ?_
  refine own_S (mkF m 5 #[rv a, iv nd] [(.int nd), (.ref oa)]) (fun _ k => XS.iloadN X1.here hx rfl (hb hby d6_4) rfl k) ?_
  refine own_S (mkF m 6 #[rv a, iv nd] [(.ref a), (.int nd), (.ref oa)]) (fun _ k => XS.aloadN X1.here hx rfl (hb hby d6_5) rfl rfl k) ?_
  refine own_S (mkF m 7 #[rv a, iv nd] [(.ref a), (.ref a), (.int nd), (.ref oa)]) (fun _ k => XS.dup X1.here hx rfl (hb hby d6_6) rfl rfl k) ?_
  obtain ⟨T2, X2, e2, st2⟩ := getF X1 hx hZ hown (host := "") (Or.inl (own_g hw (i := 41) rfl)) Via.refl e1 P6 (g := (mkF m 7 #[rv a, iv nd] [(.ref a), (.ref a), (.int nd), (.ref oa)])) rfl rfl (hb hby d6_7)
  refine own_S (mkF m 10 #[rv a, iv nd] [(.long of), (.ref a), (.int nd), (.ref oa)]) st2 ?_
  refine own_S (mkF m 11 #[rv a, iv nd] [(.long 1), (.long of), (.ref a), (.int nd), (.ref oa)]) (fun _ k => XS.lconst X2.here hx rfl (hb hby d6_10) k) ?_
  refine own_S (mkF m 12 #[rv a, iv nd] [(.long (of + (1 : Int64))), (.ref a), (.int nd), (.ref oa)]) (fun _ k => XS.ladd X2.here hx rfl (hb hby d6_11) rfl k) ?_
  refine own_S (mkF m 13 #[rv a, iv nd] [(.long (of + (1 : Int64))), (.ref a), (.long (of + (1 : Int64))), (.int nd), (.ref oa)]) (fun _ k => own_dup2x1 X2.here hx rfl (hb hby d6_12) rfl rfl k) ?_
  obtain ⟨T3, h3, X3, e3, W3, st3⟩ := putF X2 hx hZ hown (host := "") (Or.inl (own_g hw (i := 41) rfl)) Via.refl e2 P6 P0 (Or.inl (own_g hw (i := 42) rfl)) (own_g hw (i := 2) rfl) (ty := .long) (by decide) rfl rfl (g := (mkF m 13 #[rv a, iv nd] [(.long (of + (1 : Int64))), (.ref a), (.long (of + (1 : Int64))), (.int nd), (.ref oa)])) rfl rfl (hb hby d6_13)
  refine own_S (mkF m 16 #[rv a, iv nd] [(.long (of + (1 : Int64))), (.int nd), (.ref oa)]) st3 ?_
  have F4 := P0.wr W3
  have F5 := P1.other W3 (Or.inr (slot_ne (Or.inr (own_g hw (i := 11) rfl)) (Or.inl (own_g hw (i := 42) rfl)) (by decide) (t := (.array .long)) (t' := .long) (by decide) (by decide)))
  have F6 := P2.other W3 (Or.inr (slot_ne (Or.inr (own_g hw (i := 14) rfl)) (Or.inl (own_g hw (i := 42) rfl)) (by decide) (t := (.array .int)) (t' := .long) (by decide) (by decide)))
  have F7 := P3.other W3 (Or.inr (slot_ne (Or.inr (own_g hw (i := 16) rfl)) (Or.inl (own_g hw (i := 42) rfl)) (by decide) (t := (.array .int)) (t' := .long) (by decide) (by decide)))
  have F8 := P4.other W3 (Or.inr (slot_ne (Or.inr (own_g hw (i := 18) rfl)) (Or.inl (own_g hw (i := 42) rfl)) (by decide) (t := (.array .long)) (t' := .long) (by decide) (by decide)))
  have F9 := P5.other W3 (Or.inr (slot_ne (Or.inl (own_g hw (i := 29) rfl)) (Or.inl (own_g hw (i := 42) rfl)) (by decide) (t := .int) (t' := .long) (by decide) (by decide)))
  have F10 := P6.same W3
  have F11 := P7.other W3 (Ne.symm NE_a_da)
  have F12 := P8.other W3 (Ne.symm NE_a_ha)
  have F13 := P9.other W3 (Ne.symm NE_a_pa)
  have F14 := P10.other W3 (Ne.symm NE_a_oa)
  have N3 := Fr.snoc X3 N0 G_a
  have Z3 : n0 ≤ h3.size := by rw [Wr.size W3]; exact Z0
  have K3 : Keep h0 h3 [a, ha, pa, oa] := (Keep.refl _ _).wr W3 (Or.inl (List.mem_of_getElem? (i := 0) rfl))
  obtain ⟨T15, h15, X15, e15, W15, AR15, st15⟩ := own_stJ (j := nd) X3 hx hZ e3 F14 hn0 hnO (g := (mkF m 16 #[rv a, iv nd] [(.long (of + (1 : Int64))), (.int nd), (.ref oa)])) rfl rfl (hb hby d6_16)
  refine own_S (mkF m 17 #[rv a, iv nd] []) st15 ?_
  have F16 := F4.wr W15
  have F17 := F5.other W15 (Or.inl NE_a_oa)
  have F18 := F6.other W15 (Or.inl NE_a_oa)
  have F19 := F7.other W15 (Or.inl NE_a_oa)
  have F20 := F8.other W15 (Or.inl NE_a_oa)
  have F21 := F9.other W15 (Or.inl NE_a_oa)
  have F22 := F10.other W15 (Or.inl NE_a_oa)
  have F23 := F11.other W15 NE_da_oa
  have F24 := F12.other W15 NE_ha_oa
  have F25 := F13.other W15 NE_pa_oa
  have F26 : own_Ar Z h15 oa ko .long (O.set (nd).toNatClampNeg (.long (of + (1 : Int64)))) := AR15
  have N15 := Fr.snoc X15 N3 G_oa
  have Z15 : n0 ≤ h15.size := by rw [Wr.size W15]; exact Z3
  have K15 : Keep h0 h15 [a, ha, pa, oa] := K3.wr W15 (Or.inl (List.mem_of_getElem? (i := 3) rfl))
  refine own_S (mkF m 18 #[rv a, iv nd] [(.ref a)]) (fun _ k => XS.aloadN X15.here hx rfl (hb hby d6_17) rfl rfl k) ?_
  obtain ⟨T27, X27, e27, st27⟩ := getF X15 hx hZ hown (host := "") (Or.inl (own_g hw (i := 15) rfl)) Via.refl e15 F19 (g := (mkF m 18 #[rv a, iv nd] [(.ref a)])) rfl rfl (hb hby d6_18)
  refine own_S (mkF m 21 #[rv a, iv nd] [(.ref pa)]) st27 ?_
  refine own_S (mkF m 22 #[rv a, iv nd] [(.int nd), (.ref pa)]) (fun _ k => XS.iloadN X27.here hx rfl (hb hby d6_21) rfl k) ?_
  refine own_S (mkF m 23 #[rv a, iv nd] [(.int (-1))]) (fun _ k => own_ldI (j := nd) (v := (.int (-1))) X27 hx hZ e27 F25 hn0 hpv (g := (mkF m 22 #[rv a, iv nd] [(.int nd), (.ref pa)])) rfl rfl (hb hby d6_22) _ k) ?_
  have hc28 : (-1 : Int32) < (0 : Int32) := by decide
  refine own_S (mkF m 26 #[rv a, iv nd] []) (fun _ k => XS.ifNo X27.here hx rfl (hb hby d6_23) rfl ((if0 _ _).trans (tlt hc28).2.1) k) ?_
  refine own_S (mkF m 27 #[rv a, iv nd] [(.ref a)]) (fun _ k => XS.aloadN X27.here hx rfl (hb hby d6_26) rfl rfl k) ?_
  obtain ⟨T29, X29, e29, st29⟩ := getF X27 hx hZ hown (host := "") (Or.inl (own_g hw (i := 13) rfl)) Via.refl e27 F18 (g := (mkF m 27 #[rv a, iv nd] [(.ref a)])) rfl rfl (hb hby d6_27)
  refine own_S (mkF m 30 #[rv a, iv nd] [(.ref ha)]) st29 ?_
  refine own_S (mkF m 31 #[rv a, iv nd] [(.ref a), (.ref ha)]) (fun _ k => XS.aloadN X29.here hx rfl (hb hby d6_30) rfl rfl k) ?_
  obtain ⟨T30, X30, e30, st30⟩ := getF X29 hx hZ hown (host := "") (Or.inl (own_g hw (i := 28) rfl)) Via.refl e29 F21 (g := (mkF m 31 #[rv a, iv nd] [(.ref a), (.ref ha)])) rfl rfl (hb hby d6_31)
  refine own_S (mkF m 34 #[rv a, iv nd] [(.int 1), (.ref ha)]) st30 ?_
  refine own_S (mkF m 35 #[rv a, iv nd] [(.int nd), (.int 1), (.ref ha)]) (fun _ k => XS.iloadN X30.here hx rfl (hb hby d6_34) rfl k) ?_
  obtain ⟨T31, h31, X31, e31, W31, AR31, st31⟩ := own_stI (j := (1 : Int32)) X30 hx hZ e30 F24 (by decide) hH (g := (mkF m 35 #[rv a, iv nd] [(.int nd), (.int 1), (.ref ha)])) rfl rfl (hb hby d6_35)
  refine own_S (mkF m 36 #[rv a, iv nd] []) st31 ?_
  have F32 := F16.wr W31
  have F33 := F17.other W31 (Or.inl NE_a_ha)
  have F34 := F18.other W31 (Or.inl NE_a_ha)
  have F35 := F19.other W31 (Or.inl NE_a_ha)
  have F36 := F20.other W31 (Or.inl NE_a_ha)
  have F37 := F21.other W31 (Or.inl NE_a_ha)
  have F38 := F22.other W31 (Or.inl NE_a_ha)
  have F39 := F23.other W31 NE_da_ha
  have F40 := F25.other W31 (Ne.symm NE_ha_pa)
  have F41 := F26.other W31 (Ne.symm NE_ha_oa)
  have F42 : own_Ar Z h31 ha kh .int (H.set 1 (.int nd)) := AR31
  have N31 := Fr.snoc X31 N15 G_ha
  have Z31 : n0 ≤ h31.size := by rw [Wr.size W31]; exact Z15
  have K31 : Keep h0 h31 [a, ha, pa, oa] := K15.wr W31 (Or.inl (List.mem_of_getElem? (i := 1) rfl))
  refine own_S (mkF m 37 #[rv a, iv nd] [(.ref a)]) (fun _ k => XS.aloadN X31.here hx rfl (hb hby d6_36) rfl rfl k) ?_
  obtain ⟨T43, X43, e43, st43⟩ := getF X31 hx hZ hown (host := "") (Or.inl (own_g hw (i := 15) rfl)) Via.refl e31 F35 (g := (mkF m 37 #[rv a, iv nd] [(.ref a)])) rfl rfl (hb hby d6_37)
  refine own_S (mkF m 40 #[rv a, iv nd] [(.ref pa)]) st43 ?_
  refine own_S (mkF m 41 #[rv a, iv nd] [(.int nd), (.ref pa)]) (fun _ k => XS.iloadN X43.here hx rfl (hb hby d6_40) rfl k) ?_
  refine own_S (mkF m 42 #[rv a, iv nd] [(.ref a), (.int nd), (.ref pa)]) (fun _ k => XS.aloadN X43.here hx rfl (hb hby d6_41) rfl rfl k) ?_
  refine own_S (mkF m 43 #[rv a, iv nd] [(.ref a), (.ref a), (.int nd), (.ref pa)]) (fun _ k => XS.dup X43.here hx rfl (hb hby d6_42) rfl rfl k) ?_
  obtain ⟨T44, X44, e44, st44⟩ := getF X43 hx hZ hown (host := "") (Or.inl (own_g hw (i := 28) rfl)) Via.refl e43 F37 (g := (mkF m 43 #[rv a, iv nd] [(.ref a), (.ref a), (.int nd), (.ref pa)])) rfl rfl (hb hby d6_43)
  refine own_S (mkF m 46 #[rv a, iv nd] [(.int 1), (.ref a), (.int nd), (.ref pa)]) st44 ?_
  refine own_S (mkF m 47 #[rv a, iv nd] [(.int 1), (.ref a), (.int 1), (.int nd), (.ref pa)]) (fun _ k => XS.dupX1 X44.here hx rfl (hb hby d6_46) rfl rfl rfl k) ?_
  refine own_S (mkF m 48 #[rv a, iv nd] [(.int 1), (.int 1), (.ref a), (.int 1), (.int nd), (.ref pa)]) (fun _ k => XS.iconst X44.here hx rfl (hb hby d6_47) k) ?_
  refine own_S (mkF m 49 #[rv a, iv nd] [(.int 2), (.ref a), (.int 1), (.int nd), (.ref pa)]) (fun _ k => XS.iadd X44.here hx rfl (hb hby d6_48) rfl k) ?_
  obtain ⟨T45, h45, X45, e45, W45, st45⟩ := putF X44 hx hZ hown (host := "") (Or.inl (own_g hw (i := 28) rfl)) Via.refl e44 F37 F32 (Or.inl (own_g hw (i := 29) rfl)) (own_g hw (i := 2) rfl) (ty := .int) (by decide) rfl rfl (g := (mkF m 49 #[rv a, iv nd] [(.int 2), (.ref a), (.int 1), (.int nd), (.ref pa)])) rfl rfl (hb hby d6_49)
  refine own_S (mkF m 52 #[rv a, iv nd] [(.int 1), (.int nd), (.ref pa)]) st45 ?_
  have F46 := F32.wr W45
  have F47 := F33.other W45 (Or.inr (slot_ne (Or.inr (own_g hw (i := 11) rfl)) (Or.inl (own_g hw (i := 29) rfl)) (by decide) (t := (.array .long)) (t' := .int) (by decide) (by decide)))
  have F48 := F34.other W45 (Or.inr (slot_ne (Or.inr (own_g hw (i := 14) rfl)) (Or.inl (own_g hw (i := 29) rfl)) (by decide) (t := (.array .int)) (t' := .int) (by decide) (by decide)))
  have F49 := F35.other W45 (Or.inr (slot_ne (Or.inr (own_g hw (i := 16) rfl)) (Or.inl (own_g hw (i := 29) rfl)) (by decide) (t := (.array .int)) (t' := .int) (by decide) (by decide)))
  have F50 := F36.other W45 (Or.inr (slot_ne (Or.inr (own_g hw (i := 18) rfl)) (Or.inl (own_g hw (i := 29) rfl)) (by decide) (t := (.array .long)) (t' := .int) (by decide) (by decide)))
  have F51 := F37.same W45
  have F52 := F38.other W45 (Or.inr (slot_ne (Or.inl (own_g hw (i := 42) rfl)) (Or.inl (own_g hw (i := 29) rfl)) (by decide) (t := .long) (t' := .int) (by decide) (by decide)))
  have F53 := F39.other W45 (Ne.symm NE_a_da)
  have F54 := F40.other W45 (Ne.symm NE_a_pa)
  have F55 := F41.other W45 (Ne.symm NE_a_oa)
  have F56 := F42.other W45 (Ne.symm NE_a_ha)
  have N45 := Fr.snoc X45 N31 G_a
  have Z45 : n0 ≤ h45.size := by rw [Wr.size W45]; exact Z31
  have K45 : Keep h0 h45 [a, ha, pa, oa] := K31.wr W45 (Or.inl (List.mem_of_getElem? (i := 0) rfl))
  obtain ⟨T57, h57, X57, e57, W57, AR57, st57⟩ := own_stI (j := nd) X45 hx hZ e45 F54 hn0 hnP (g := (mkF m 52 #[rv a, iv nd] [(.int 1), (.int nd), (.ref pa)])) rfl rfl (hb hby d6_52)
  refine own_S (mkF m 53 #[rv a, iv nd] []) st57 ?_
  have F58 := F46.wr W57
  have F59 := F47.other W57 (Or.inl NE_a_pa)
  have F60 := F48.other W57 (Or.inl NE_a_pa)
  have F61 := F49.other W57 (Or.inl NE_a_pa)
  have F62 := F50.other W57 (Or.inl NE_a_pa)
  have F63 := F51.other W57 (Or.inl NE_a_pa)
  have F64 := F52.other W57 (Or.inl NE_a_pa)
  have F65 := F53.other W57 NE_da_pa
  have F66 := F55.other W57 (Ne.symm NE_pa_oa)
  have F67 := F56.other W57 NE_ha_pa
  have F68 : own_Ar Z h57 pa kp .int (P.set (nd).toNatClampNeg (.int (1 : Int32))) := AR57
  have N57 := Fr.snoc X57 N45 G_pa
  have Z57 : n0 ≤ h57.size := by rw [Wr.size W57]; exact Z45
  have K57 : Keep h0 h57 [a, ha, pa, oa] := K45.wr W57 (Or.inl (List.mem_of_getElem? (i := 2) rfl))
  refine own_S (mkF m 54 #[rv a, iv nd] [(.ref a)]) (fun _ k => XS.aloadN X57.here hx rfl (hb hby d6_53) rfl rfl k) ?_
  refine own_S (mkF m 55 #[rv a, iv nd] [(.ref a), (.ref a)]) (fun _ k => XS.aloadN X57.here hx rfl (hb hby d6_54) rfl rfl k) ?_
  obtain ⟨T69, X69, e69, st69⟩ := getF X57 hx hZ hown (host := "") (Or.inl (own_g hw (i := 15) rfl)) Via.refl e57 F61 (g := (mkF m 55 #[rv a, iv nd] [(.ref a), (.ref a)])) rfl rfl (hb hby d6_55)
  refine own_S (mkF m 58 #[rv a, iv nd] [(.ref pa), (.ref a)]) st69 ?_
  refine own_S (mkF m 59 #[rv a, iv nd] [(.int nd), (.ref pa), (.ref a)]) (fun _ k => XS.iloadN X69.here hx rfl (hb hby d6_58) rfl k) ?_
  refine own_S (mkF m 60 #[rv a, iv nd] [(.int 1), (.ref a)]) (fun _ k => own_ldI (j := nd) (v := (.int 1)) X69 hx hZ e69 F68 hn0 (own_set_at hnP) (g := (mkF m 59 #[rv a, iv nd] [(.int nd), (.ref pa), (.ref a)])) rfl rfl (hb hby d6_59) _ k) ?_
  obtain ⟨cq70, q70a, q70b⟩ := Exa.cell F58
  obtain ⟨_, _, ⟨T70, L70, k70, n70⟩, -, X70, ⟨Lc70, hQ70, l70, y70, z70⟩, st70⟩ := X69.privateBack hx (y := own_y5) hown (mvT hZ (own_g hw (i := 43) rfl)) (mvT hZ (own_g hw (i := 44) rfl)) (own_selP (mvT hZ (own_g hw (i := 2) rfl)) (Cond.privateMethod_at (mvP hZ (own_g hw (i := 45) rfl) (args := #[]))) (mvT hZ (own_g hw (i := 44) rfl)) (by decide)) (Cond.privateMethod_at (mvP hZ (own_g hw (i := 45) rfl) (args := #[]))) (mvT hZ (own_g hw (i := 46) rfl)) (by decide) (backOf (W := 0) (own_rmsu1m l Z a0 hw [] (a) (da) (ha) (pa) (oa) (kd) (kh) (kp) (ko) (D) ((H.set 1 (.int nd))) ((P.set (nd).toNatClampNeg (.int (1 : Int32)))) ((O.set (nd).toNatClampNeg (.long (of + (1 : Int64))))) (nd) (xx) (dn) (dx) ((of + (1 : Int64))) (ox) h57 n0 Z57 F58 F59 F60 F61 F62 F65 F67 F68 F66 G_ha G_pa NE_a_da NE_a_ha NE_a_pa NE_a_oa NE_da_ha NE_da_pa NE_da_oa NE_ha_pa NE_ha_oa NE_pa_oa (own_set_ne (by decide) h0v) (own_set_at hH) hn0 (by rw [List.length_set]; exact hnP) hx0 (by rw [List.length_set]; exact hxP) hdx hdy (own_set_at hnO) (own_set_ne hxn.symm hoy) hB) hZ (own_g hw (i := 46) rfl) (own_g hw (i := 3) rfl) (by decide) (by decide)) (g := (mkF m 60 #[rv a, iv nd] [(.int 1), (.ref a)])) rfl (by rw [hml]; rfl) (Steps.refl _) (a := a) (by rw [e69]; exact q70a) q70b (argsL := [(.int 1)]) (rest := []) (lenOf own_pd__I_V rfl) rfl (by show 2 * 0 + _ ≤ _; exact Nat.le_of_eq rfl) (hb hby d6_60) (fun _ _ => ⟨rfl, e69, (by decide : 0 + 0 ≤ _), (by decide : 0 + 0 ≤ _)⟩)
  dsimp only [Pt.U, Pt.locs, Pt.cells, Pt.slots] at X70 l70 y70 z70 st70 hQ70
  subst l70 y70 z70
  obtain ⟨rfl, N70q, K70q, F71, F72⟩ := hQ70
  have N70 := Fr.app N57 N70q
  refine own_S (mkF m 63 #[rv a, iv nd] []) (fun _ k => st70.trans k) ?_
  have K70 : Keep h0 T70.heap [a, ha, pa, oa] := K57.trans K70q (allS (Or.inl (List.mem_of_getElem? (i := 1) rfl)) (allS (Or.inl (List.mem_of_getElem? (i := 2) rfl)) all0))
  have F73 := F58.keep K70q
  have F74 := F59.keep K70q (ninS NE_a_ha (ninS NE_a_pa nin0))
  have F75 := F60.keep K70q (ninS NE_a_ha (ninS NE_a_pa nin0))
  have F76 := F61.keep K70q (ninS NE_a_ha (ninS NE_a_pa nin0))
  have F77 := F62.keep K70q (ninS NE_a_ha (ninS NE_a_pa nin0))
  have F78 := F63.keep K70q (ninS NE_a_ha (ninS NE_a_pa nin0))
  have F79 := F64.keep K70q (ninS NE_a_ha (ninS NE_a_pa nin0))
  have F80 := F65.keep K70q (ninS NE_da_ha (ninS NE_da_pa nin0))
  have F81 := F66.keep K70q (ninS (Ne.symm NE_ha_oa) (ninS (Ne.symm NE_pa_oa) nin0))
  have Z70 : n0 ≤ T70.heap.size := Nat.le_trans Z57 K70q.1
  exact own_ret0 X70 hx hlk hret (hb hby d6_63) ⟨rfl, N70, K70, F73, F74, F75, F76, F77, F78, F79, F71, F72, F81⟩ (by decide) (by decide)
theorem own_pf_of1n : plainFor own_y6 = true := by first | exact plainFor_of_name (show plainName "com/example/stickler/stickler/assignment/NodeQueue" = true by first | (simp [plainName, overriddenIn]; done) | decide +kernel) | decide +kernel
theorem own_ef_of1n (m : MethodId) (y0 : Addr) (y1 : Int32) : entryFrame m #[(.ref y0), (.int y1)] 2 = mkF m 0 #[rv y0, iv y1] [] := by first | (simp [entryFrame, mkF, argsToLocals, Value.category]; done) | rfl
def own_Qof1n (Z : State) (a : Addr) (da : Addr) (ha : Addr) (pa : Addr) (oa : Addr) (kd : ClassId) (kh : ClassId) (kp : ClassId) (ko : ClassId) (D : List Value) (H : List Value) (P : List Value) (O : List Value) (nd : Int32) (xx : Int32) (of : Int64) (dn : Int64) (dx : Int64) (ox : Int64) (h0 : Heap) (n0 : Nat) (v : Option Value) (h : Heap) (L : List Loc) : Prop := v = none ∧ Fr n0 L ∧ Keep h0 h [a, ha, pa, oa] ∧ Exa Z h a "com/example/stickler/stickler/assignment/NodeQueue" ∧ Fld Z h a "com/example/stickler/stickler/assignment/NodeQueue" "distance" "[J" (.ref da) ∧ Fld Z h a "com/example/stickler/stickler/assignment/NodeQueue" "heap" "[I" (.ref ha) ∧ Fld Z h a "com/example/stickler/stickler/assignment/NodeQueue" "place" "[I" (.ref pa) ∧ Fld Z h a "com/example/stickler/stickler/assignment/NodeQueue" "offered" "[J" (.ref oa) ∧ Fld Z h a "com/example/stickler/stickler/assignment/NodeQueue" "size" "I" (.int (2 : Int32)) ∧ Fld Z h a "com/example/stickler/stickler/assignment/NodeQueue" "offers" "J" (.long (of + (1 : Int64))) ∧ own_Ar Z h ha kh .int ((H.set 1 (.int nd)).set 1 (.int nd)) ∧ own_Ar Z h pa kp .int ((P.set (nd).toNatClampNeg (.int (1 : Int32))).set (nd).toNatClampNeg (.int (1 : Int32))) ∧ own_Ar Z h oa ko .long (O.set (nd).toNatClampNeg (.long (of + (1 : Int64))))
set_option maxRecDepth 65536 in
set_option maxHeartbeats 40000000 in
theorem own_rmof1n (l : Launch) (Z : State) (a0 : Array Value) (hw : ∀ d ∈ tables_1, d.before a0 Z = true) (ws : List Jvm.Cond) (a : Addr) (da : Addr) (ha : Addr) (pa : Addr) (oa : Addr) (kd : ClassId) (kh : ClassId) (kp : ClassId) (ko : ClassId) (D : List Value) (H : List Value) (P : List Value) (O : List Value) (nd : Int32) (xx : Int32) (of : Int64) (dn : Int64) (dx : Int64) (ox : Int64) (h0 : Heap) (n0 : Nat) (Z0 : n0 ≤ h0.size) (P0 : Exa Z h0 a "com/example/stickler/stickler/assignment/NodeQueue") (P1 : Fld Z h0 a "com/example/stickler/stickler/assignment/NodeQueue" "distance" "[J" (.ref da)) (P2 : Fld Z h0 a "com/example/stickler/stickler/assignment/NodeQueue" "heap" "[I" (.ref ha)) (P3 : Fld Z h0 a "com/example/stickler/stickler/assignment/NodeQueue" "place" "[I" (.ref pa)) (P4 : Fld Z h0 a "com/example/stickler/stickler/assignment/NodeQueue" "offered" "[J" (.ref oa)) (P5 : Fld Z h0 a "com/example/stickler/stickler/assignment/NodeQueue" "size" "I" (.int (1 : Int32))) (P6 : Fld Z h0 a "com/example/stickler/stickler/assignment/NodeQueue" "offers" "J" (.long of)) (P7 : own_Ar Z h0 da kd .long D) (P8 : own_Ar Z h0 ha kh .int H) (P9 : own_Ar Z h0 pa kp .int P) (P10 : own_Ar Z h0 oa ko .long O) (G_a : n0 ≤ a) (G_ha : n0 ≤ ha) (G_pa : n0 ≤ pa) (G_oa : n0 ≤ oa) (NE_a_da : a ≠ da) (NE_a_ha : a ≠ ha) (NE_a_pa : a ≠ pa) (NE_a_oa : a ≠ oa) (NE_da_ha : da ≠ ha) (NE_da_pa : da ≠ pa) (NE_da_oa : da ≠ oa) (NE_ha_pa : ha ≠ pa) (NE_ha_oa : ha ≠ oa) (NE_pa_oa : pa ≠ oa) (hn0 : ¬ nd < (0 : Int32)) (hnP : (nd).toNatClampNeg < P.length) (hnO : (nd).toNatClampNeg < O.length) (hpv : P[(nd).toNatClampNeg]? = some (.int (-1 : Int32))) (hH : 1 < H.length) (h0v : H[0]? = some (.int xx)) (hx0 : ¬ xx < (0 : Int32)) (hxP : (xx).toNatClampNeg < P.length) (hxn : (xx).toNatClampNeg ≠ (nd).toNatClampNeg) (hdx : D[(nd).toNatClampNeg]? = some (.long dn)) (hdy : D[(xx).toNatClampNeg]? = some (.long dx)) (hoy : O[(xx).toNatClampNeg]? = some (.long ox)) (hB : ¬ (dn < dx ∨ (dn = dx ∧ ox < (of + (1 : Int64))))) :
    MetFree l own_y6 (head1 (Jvm.Cond.code own_y6 prog_8_method_3_code 2 none :: ws) ({ frames := 2, cells := 0, slots := 0, locals := 28 } : Room)) (fun az Uz => az = #[(.ref a), (.int nd)] ∧ Z.Warmed39 Uz.vm ∧ Uz.heap = h0) (fun _ _ _ _ _ => True) (fun _ U o U' => ∃ v L, o = .returned v ∧ own_Qof1n Z a da ha pa oa kd kh kp ko D H P O nd xx of dn dx ox h0 n0 v U'.heap L ∧ FrameEnd U o U' L ({ frames := 2, cells := 0, slots := 0, locals := 28 } : Room).cells ({ frames := 2, cells := 0, slots := 0, locals := 28 } : Room).slots) := by
  refine MetFree.of_bodySF own_pf_of1n hisR ?_
  intro p e s m args below meth c s₁ Bd hml0 hP hK
  obtain ⟨rfl, hZ, hh⟩ := hP
  have hx := Bd.exec
  have hby := Bd.bytes
  have hml : c.maxLocals = 2 := hml0
  have hown : s.vm.findClass "com/example/stickler/stickler/assignment/NodeQueue" = some m.cls := findClass_of_methodNamed Bd.named
  have hnm := (name_of_methodNamed Bd.named Bd.method).1
  have hlk : meth.locks = false := BodyLoose.notSynchronized Bd
  have hret := Bd.returns
  have X0 : Stand p l e ({ frames := 2, cells := 0, slots := 0, locals := 28 } : Room) s m #[(.ref a), (.int nd)] below meth c s₁ [] 0 0 := Stand.of_body Bd
  have e0 : s₁.heap = h0 := by rw [← hh, Bd.state]; rfl
  have N0 := Fr.nil n0
  show own_E p e below (own_K s (own_Qof1n Z a da ha pa oa kd kh kp ko D H P O nd xx of dn dx ox h0 n0) ({ frames := 2, cells := 0, slots := 0, locals := 28 } : Room).cells ({ frames := 2, cells := 0, slots := 0, locals := 28 } : Room).slots) s₁ (entryFrame m #[(.ref a), (.int nd)] 2)
  refine own_S (mkF m 0 #[rv a, iv nd] []) (fun _ k => castTop (own_ef_of1n m (a) (nd)) k) ?_
  refine own_S (mkF m 1 #[rv a, iv nd] [(.ref a)]) (fun _ k => XS.aloadN X0.here hx rfl (hb hby d6_0) rfl rfl k) ?_
  obtain ⟨T1, X1, e1, st1⟩ := getF X0 hx hZ hown (host := "") (Or.inl (own_g hw (i := 17) rfl)) Via.refl e0 P4 (g := (mkF m 1 #[rv a, iv nd] [(.ref a)])) rfl rfl (hb hby d6_1)
  refine own_S (mkF m 4 #[rv a, iv nd] [(.ref oa)]) st1 ?_
  refine own_S (mkF m 5 #[rv a, iv nd] [(.int nd), (.ref oa)]) (fun _ k => XS.iloadN X1.here hx rfl (hb hby d6_4) rfl k) ?_
  refine own_S (mkF m 6 #[rv a, iv nd] [(.ref a), (.int nd), (.ref oa)]) (fun _ k => XS.aloadN X1.here hx rfl (hb hby d6_5) rfl rfl k) ?_
  refine own_S (mkF m 7 #[rv a, iv nd] [(.ref a), (.ref a), (.int nd), (.ref oa)]) (fun _ k => XS.dup X1.here hx rfl (hb hby d6_6) rfl rfl k) ?_
  obtain ⟨T2, X2, e2, st2⟩ := getF X1 hx hZ hown (host := "") (Or.inl (own_g hw (i := 41) rfl)) Via.refl e1 P6 (g := (mkF m 7 #[rv a, iv nd] [(.ref a), (.ref a), (.int nd), (.ref oa)])) rfl rfl (hb hby d6_7)
  refine own_S (mkF m 10 #[rv a, iv nd] [(.long of), (.ref a), (.int nd), (.ref oa)]) st2 ?_
  refine own_S (mkF m 11 #[rv a, iv nd] [(.long 1), (.long of), (.ref a), (.int nd), (.ref oa)]) (fun _ k => XS.lconst X2.here hx rfl (hb hby d6_10) k) ?_
  refine own_S (mkF m 12 #[rv a, iv nd] [(.long (of + (1 : Int64))), (.ref a), (.int nd), (.ref oa)]) (fun _ k => XS.ladd X2.here hx rfl (hb hby d6_11) rfl k) ?_
  refine own_S (mkF m 13 #[rv a, iv nd] [(.long (of + (1 : Int64))), (.ref a), (.long (of + (1 : Int64))), (.int nd), (.ref oa)]) (fun _ k => own_dup2x1 X2.here hx rfl (hb hby d6_12) rfl rfl k) ?_
  obtain ⟨T3, h3, X3, e3, W3, st3⟩ := putF X2 hx hZ hown (host := "") (Or.inl (own_g hw (i := 41) rfl)) Via.refl e2 P6 P0 (Or.inl (own_g hw (i := 42) rfl)) (own_g hw (i := 2) rfl) (ty := .long) (by decide) rfl rfl (g := (mkF m 13 #[rv a, iv nd] [(.long (of + (1 : Int64))), (.ref a), (.long (of + (1 : Int64))), (.int nd), (.ref oa)])) rfl rfl (hb hby d6_13)
  refine own_S (mkF m 16 #[rv a, iv nd] [(.long (of + (1 : Int64))), (.int nd), (.ref oa)]) st3 ?_
  have F4 := P0.wr W3
  have F5 := P1.other W3 (Or.inr (slot_ne (Or.inr (own_g hw (i := 11) rfl)) (Or.inl (own_g hw (i := 42) rfl)) (by decide) (t := (.array .long)) (t' := .long) (by decide) (by decide)))
  have F6 := P2.other W3 (Or.inr (slot_ne (Or.inr (own_g hw (i := 14) rfl)) (Or.inl (own_g hw (i := 42) rfl)) (by decide) (t := (.array .int)) (t' := .long) (by decide) (by decide)))
  have F7 := P3.other W3 (Or.inr (slot_ne (Or.inr (own_g hw (i := 16) rfl)) (Or.inl (own_g hw (i := 42) rfl)) (by decide) (t := (.array .int)) (t' := .long) (by decide) (by decide)))
  have F8 := P4.other W3 (Or.inr (slot_ne (Or.inr (own_g hw (i := 18) rfl)) (Or.inl (own_g hw (i := 42) rfl)) (by decide) (t := (.array .long)) (t' := .long) (by decide) (by decide)))
  have F9 := P5.other W3 (Or.inr (slot_ne (Or.inl (own_g hw (i := 29) rfl)) (Or.inl (own_g hw (i := 42) rfl)) (by decide) (t := .int) (t' := .long) (by decide) (by decide)))
  have F10 := P6.same W3
  have F11 := P7.other W3 (Ne.symm NE_a_da)
  have F12 := P8.other W3 (Ne.symm NE_a_ha)
  have F13 := P9.other W3 (Ne.symm NE_a_pa)
  have F14 := P10.other W3 (Ne.symm NE_a_oa)
  have N3 := Fr.snoc X3 N0 G_a
  have Z3 : n0 ≤ h3.size := by rw [Wr.size W3]; exact Z0
  have K3 : Keep h0 h3 [a, ha, pa, oa] := (Keep.refl _ _).wr W3 (Or.inl (List.mem_of_getElem? (i := 0) rfl))
  obtain ⟨T15, h15, X15, e15, W15, AR15, st15⟩ := own_stJ (j := nd) X3 hx hZ e3 F14 hn0 hnO (g := (mkF m 16 #[rv a, iv nd] [(.long (of + (1 : Int64))), (.int nd), (.ref oa)])) rfl rfl (hb hby d6_16)
  refine own_S (mkF m 17 #[rv a, iv nd] []) st15 ?_
  have F16 := F4.wr W15
  have F17 := F5.other W15 (Or.inl NE_a_oa)
  have F18 := F6.other W15 (Or.inl NE_a_oa)
  have F19 := F7.other W15 (Or.inl NE_a_oa)
  have F20 := F8.other W15 (Or.inl NE_a_oa)
  have F21 := F9.other W15 (Or.inl NE_a_oa)
  have F22 := F10.other W15 (Or.inl NE_a_oa)
  have F23 := F11.other W15 NE_da_oa
  have F24 := F12.other W15 NE_ha_oa
  have F25 := F13.other W15 NE_pa_oa
  have F26 : own_Ar Z h15 oa ko .long (O.set (nd).toNatClampNeg (.long (of + (1 : Int64)))) := AR15
  have N15 := Fr.snoc X15 N3 G_oa
  have Z15 : n0 ≤ h15.size := by rw [Wr.size W15]; exact Z3
  have K15 : Keep h0 h15 [a, ha, pa, oa] := K3.wr W15 (Or.inl (List.mem_of_getElem? (i := 3) rfl))
  refine own_S (mkF m 18 #[rv a, iv nd] [(.ref a)]) (fun _ k => XS.aloadN X15.here hx rfl (hb hby d6_17) rfl rfl k) ?_
  obtain ⟨T27, X27, e27, st27⟩ := getF X15 hx hZ hown (host := "") (Or.inl (own_g hw (i := 15) rfl)) Via.refl e15 F19 (g := (mkF m 18 #[rv a, iv nd] [(.ref a)])) rfl rfl (hb hby d6_18)
  refine own_S (mkF m 21 #[rv a, iv nd] [(.ref pa)]) st27 ?_
  refine own_S (mkF m 22 #[rv a, iv nd] [(.int nd), (.ref pa)]) (fun _ k => XS.iloadN X27.here hx rfl (hb hby d6_21) rfl k) ?_
  refine own_S (mkF m 23 #[rv a, iv nd] [(.int (-1))]) (fun _ k => own_ldI (j := nd) (v := (.int (-1))) X27 hx hZ e27 F25 hn0 hpv (g := (mkF m 22 #[rv a, iv nd] [(.int nd), (.ref pa)])) rfl rfl (hb hby d6_22) _ k) ?_
  have hc28 : (-1 : Int32) < (0 : Int32) := by decide
  refine own_S (mkF m 26 #[rv a, iv nd] []) (fun _ k => XS.ifNo X27.here hx rfl (hb hby d6_23) rfl ((if0 _ _).trans (tlt hc28).2.1) k) ?_
  refine own_S (mkF m 27 #[rv a, iv nd] [(.ref a)]) (fun _ k => XS.aloadN X27.here hx rfl (hb hby d6_26) rfl rfl k) ?_
  obtain ⟨T29, X29, e29, st29⟩ := getF X27 hx hZ hown (host := "") (Or.inl (own_g hw (i := 13) rfl)) Via.refl e27 F18 (g := (mkF m 27 #[rv a, iv nd] [(.ref a)])) rfl rfl (hb hby d6_27)
  refine own_S (mkF m 30 #[rv a, iv nd] [(.ref ha)]) st29 ?_
  refine own_S (mkF m 31 #[rv a, iv nd] [(.ref a), (.ref ha)]) (fun _ k => XS.aloadN X29.here hx rfl (hb hby d6_30) rfl rfl k) ?_
  obtain ⟨T30, X30, e30, st30⟩ := getF X29 hx hZ hown (host := "") (Or.inl (own_g hw (i := 28) rfl)) Via.refl e29 F21 (g := (mkF m 31 #[rv a, iv nd] [(.ref a), (.ref ha)])) rfl rfl (hb hby d6_31)
  refine own_S (mkF m 34 #[rv a, iv nd] [(.int 1), (.ref ha)]) st30 ?_
  refine own_S (mkF m 35 #[rv a, iv nd] [(.int nd), (.int 1), (.ref ha)]) (fun _ k => XS.iloadN X30.here hx rfl (hb hby d6_34) rfl k) ?_
  obtain ⟨T31, h31, X31, e31, W31, AR31, st31⟩ := own_stI (j := (1 : Int32)) X30 hx hZ e30 F24 (by decide) hH (g := (mkF m 35 #[rv a, iv nd] [(.int nd), (.int 1), (.ref ha)])) rfl rfl (hb hby d6_35)
  refine own_S (mkF m 36 #[rv a, iv nd] []) st31 ?_
  have F32 := F16.wr W31
  have F33 := F17.other W31 (Or.inl NE_a_ha)
  have F34 := F18.other W31 (Or.inl NE_a_ha)
  have F35 := F19.other W31 (Or.inl NE_a_ha)
  have F36 := F20.other W31 (Or.inl NE_a_ha)
  have F37 := F21.other W31 (Or.inl NE_a_ha)
  have F38 := F22.other W31 (Or.inl NE_a_ha)
  have F39 := F23.other W31 NE_da_ha
  have F40 := F25.other W31 (Ne.symm NE_ha_pa)
  have F41 := F26.other W31 (Ne.symm NE_ha_oa)
  have F42 : own_Ar Z h31 ha kh .int (H.set 1 (.int nd)) := AR31
  have N31 := Fr.snoc X31 N15 G_ha
  have Z31 : n0 ≤ h31.size := by rw [Wr.size W31]; exact Z15
  have K31 : Keep h0 h31 [a, ha, pa, oa] := K15.wr W31 (Or.inl (List.mem_of_getElem? (i := 1) rfl))
  refine own_S (mkF m 37 #[rv a, iv nd] [(.ref a)]) (fun _ k => XS.aloadN X31.here hx rfl (hb hby d6_36) rfl rfl k) ?_
  obtain ⟨T43, X43, e43, st43⟩ := getF X31 hx hZ hown (host := "") (Or.inl (own_g hw (i := 15) rfl)) Via.refl e31 F35 (g := (mkF m 37 #[rv a, iv nd] [(.ref a)])) rfl rfl (hb hby d6_37)
  refine own_S (mkF m 40 #[rv a, iv nd] [(.ref pa)]) st43 ?_
  refine own_S (mkF m 41 #[rv a, iv nd] [(.int nd), (.ref pa)]) (fun _ k => XS.iloadN X43.here hx rfl (hb hby d6_40) rfl k) ?_
  refine own_S (mkF m 42 #[rv a, iv nd] [(.ref a), (.int nd), (.ref pa)]) (fun _ k => XS.aloadN X43.here hx rfl (hb hby d6_41) rfl rfl k) ?_
  refine own_S (mkF m 43 #[rv a, iv nd] [(.ref a), (.ref a), (.int nd), (.ref pa)]) (fun _ k => XS.dup X43.here hx rfl (hb hby d6_42) rfl rfl k) ?_
  obtain ⟨T44, X44, e44, st44⟩ := getF X43 hx hZ hown (host := "") (Or.inl (own_g hw (i := 28) rfl)) Via.refl e43 F37 (g := (mkF m 43 #[rv a, iv nd] [(.ref a), (.ref a), (.int nd), (.ref pa)])) rfl rfl (hb hby d6_43)
  refine own_S (mkF m 46 #[rv a, iv nd] [(.int 1), (.ref a), (.int nd), (.ref pa)]) st44 ?_
  refine own_S (mkF m 47 #[rv a, iv nd] [(.int 1), (.ref a), (.int 1), (.int nd), (.ref pa)]) (fun _ k => XS.dupX1 X44.here hx rfl (hb hby d6_46) rfl rfl rfl k) ?_
  refine own_S (mkF m 48 #[rv a, iv nd] [(.int 1), (.int 1), (.ref a), (.int 1), (.int nd), (.ref pa)]) (fun _ k => XS.iconst X44.here hx rfl (hb hby d6_47) k) ?_
  refine own_S (mkF m 49 #[rv a, iv nd] [(.int 2), (.ref a), (.int 1), (.int nd), (.ref pa)]) (fun _ k => XS.iadd X44.here hx rfl (hb hby d6_48) rfl k) ?_
  obtain ⟨T45, h45, X45, e45, W45, st45⟩ := putF X44 hx hZ hown (host := "") (Or.inl (own_g hw (i := 28) rfl)) Via.refl e44 F37 F32 (Or.inl (own_g hw (i := 29) rfl)) (own_g hw (i := 2) rfl) (ty := .int) (by decide) rfl rfl (g := (mkF m 49 #[rv a, iv nd] [(.int 2), (.ref a), (.int 1), (.int nd), (.ref pa)])) rfl rfl (hb hby d6_49)
  refine own_S (mkF m 52 #[rv a, iv nd] [(.int 1), (.int nd), (.ref pa)]) st45 ?_
  have F46 := F32.wr W45
  have F47 := F33.other W45 (Or.inr (slot_ne (Or.inr (own_g hw (i := 11) rfl)) (Or.inl (own_g hw (i := 29) rfl)) (by decide) (t := (.array .long)) (t' := .int) (by decide) (by decide)))
  have F48 := F34.other W45 (Or.inr (slot_ne (Or.inr (own_g hw (i := 14) rfl)) (Or.inl (own_g hw (i := 29) rfl)) (by decide) (t := (.array .int)) (t' := .int) (by decide) (by decide)))
  have F49 := F35.other W45 (Or.inr (slot_ne (Or.inr (own_g hw (i := 16) rfl)) (Or.inl (own_g hw (i := 29) rfl)) (by decide) (t := (.array .int)) (t' := .int) (by decide) (by decide)))
  have F50 := F36.other W45 (Or.inr (slot_ne (Or.inr (own_g hw (i := 18) rfl)) (Or.inl (own_g hw (i := 29) rfl)) (by decide) (t := (.array .long)) (t' := .int) (by decide) (by decide)))
  have F51 := F37.same W45
  have F52 := F38.other W45 (Or.inr (slot_ne (Or.inl (own_g hw (i := 42) rfl)) (Or.inl (own_g hw (i := 29) rfl)) (by decide) (t := .long) (t' := .int) (by decide) (by decide)))
  have F53 := F39.other W45 (Ne.symm NE_a_da)
  have F54 := F40.other W45 (Ne.symm NE_a_pa)
  have F55 := F41.other W45 (Ne.symm NE_a_oa)
  have F56 := F42.other W45 (Ne.symm NE_a_ha)
  have N45 := Fr.snoc X45 N31 G_a
  have Z45 : n0 ≤ h45.size := by rw [Wr.size W45]; exact Z31
  have K45 : Keep h0 h45 [a, ha, pa, oa] := K31.wr W45 (Or.inl (List.mem_of_getElem? (i := 0) rfl))
  obtain ⟨T57, h57, X57, e57, W57, AR57, st57⟩ := own_stI (j := nd) X45 hx hZ e45 F54 hn0 hnP (g := (mkF m 52 #[rv a, iv nd] [(.int 1), (.int nd), (.ref pa)])) rfl rfl (hb hby d6_52)
  refine own_S (mkF m 53 #[rv a, iv nd] []) st57 ?_
  have F58 := F46.wr W57
  have F59 := F47.other W57 (Or.inl NE_a_pa)
  have F60 := F48.other W57 (Or.inl NE_a_pa)
  have F61 := F49.other W57 (Or.inl NE_a_pa)
  have F62 := F50.other W57 (Or.inl NE_a_pa)
  have F63 := F51.other W57 (Or.inl NE_a_pa)
  have F64 := F52.other W57 (Or.inl NE_a_pa)
  have F65 := F53.other W57 NE_da_pa
  have F66 := F55.other W57 (Ne.symm NE_pa_oa)
  have F67 := F56.other W57 NE_ha_pa
  have F68 : own_Ar Z h57 pa kp .int (P.set (nd).toNatClampNeg (.int (1 : Int32))) := AR57
  have N57 := Fr.snoc X57 N45 G_pa
  have Z57 : n0 ≤ h57.size := by rw [Wr.size W57]; exact Z45
  have K57 : Keep h0 h57 [a, ha, pa, oa] := K45.wr W57 (Or.inl (List.mem_of_getElem? (i := 2) rfl))
  refine own_S (mkF m 54 #[rv a, iv nd] [(.ref a)]) (fun _ k => XS.aloadN X57.here hx rfl (hb hby d6_53) rfl rfl k) ?_
  refine own_S (mkF m 55 #[rv a, iv nd] [(.ref a), (.ref a)]) (fun _ k => XS.aloadN X57.here hx rfl (hb hby d6_54) rfl rfl k) ?_
  obtain ⟨T69, X69, e69, st69⟩ := getF X57 hx hZ hown (host := "") (Or.inl (own_g hw (i := 15) rfl)) Via.refl e57 F61 (g := (mkF m 55 #[rv a, iv nd] [(.ref a), (.ref a)])) rfl rfl (hb hby d6_55)
  refine own_S (mkF m 58 #[rv a, iv nd] [(.ref pa), (.ref a)]) st69 ?_
  refine own_S (mkF m 59 #[rv a, iv nd] [(.int nd), (.ref pa), (.ref a)]) (fun _ k => XS.iloadN X69.here hx rfl (hb hby d6_58) rfl k) ?_
  refine own_S (mkF m 60 #[rv a, iv nd] [(.int 1), (.ref a)]) (fun _ k => own_ldI (j := nd) (v := (.int 1)) X69 hx hZ e69 F68 hn0 (own_set_at hnP) (g := (mkF m 59 #[rv a, iv nd] [(.int nd), (.ref pa), (.ref a)])) rfl rfl (hb hby d6_59) _ k) ?_
  obtain ⟨cq70, q70a, q70b⟩ := Exa.cell F58
  obtain ⟨_, _, ⟨T70, L70, k70, n70⟩, -, X70, ⟨Lc70, hQ70, l70, y70, z70⟩, st70⟩ := X69.privateBack hx (y := own_y5) hown (mvT hZ (own_g hw (i := 43) rfl)) (mvT hZ (own_g hw (i := 44) rfl)) (own_selP (mvT hZ (own_g hw (i := 2) rfl)) (Cond.privateMethod_at (mvP hZ (own_g hw (i := 45) rfl) (args := #[]))) (mvT hZ (own_g hw (i := 44) rfl)) (by decide)) (Cond.privateMethod_at (mvP hZ (own_g hw (i := 45) rfl) (args := #[]))) (mvT hZ (own_g hw (i := 46) rfl)) (by decide) (backOf (W := 0) (own_rmsu1n l Z a0 hw [] (a) (da) (ha) (pa) (oa) (kd) (kh) (kp) (ko) (D) ((H.set 1 (.int nd))) ((P.set (nd).toNatClampNeg (.int (1 : Int32)))) ((O.set (nd).toNatClampNeg (.long (of + (1 : Int64))))) (nd) (xx) (dn) (dx) ((of + (1 : Int64))) (ox) h57 n0 Z57 F58 F59 F60 F61 F62 F65 F67 F68 F66 G_ha G_pa NE_a_da NE_a_ha NE_a_pa NE_a_oa NE_da_ha NE_da_pa NE_da_oa NE_ha_pa NE_ha_oa NE_pa_oa (own_set_ne (by decide) h0v) (own_set_at hH) hn0 (by rw [List.length_set]; exact hnP) hx0 (by rw [List.length_set]; exact hxP) hdx hdy (own_set_at hnO) (own_set_ne hxn.symm hoy) hB) hZ (own_g hw (i := 46) rfl) (own_g hw (i := 3) rfl) (by decide) (by decide)) (g := (mkF m 60 #[rv a, iv nd] [(.int 1), (.ref a)])) rfl (by rw [hml]; rfl) (Steps.refl _) (a := a) (by rw [e69]; exact q70a) q70b (argsL := [(.int 1)]) (rest := []) (lenOf own_pd__I_V rfl) rfl (by show 2 * 0 + _ ≤ _; exact Nat.le_of_eq rfl) (hb hby d6_60) (fun _ _ => ⟨rfl, e69, (by decide : 0 + 0 ≤ _), (by decide : 0 + 0 ≤ _)⟩)
  dsimp only [Pt.U, Pt.locs, Pt.cells, Pt.slots] at X70 l70 y70 z70 st70 hQ70
  subst l70 y70 z70
  obtain ⟨rfl, N70q, K70q, F71, F72⟩ := hQ70
  have N70 := Fr.app N57 N70q
  refine own_S (mkF m 63 #[rv a, iv nd] []) (fun _ k => st70.trans k) ?_
  have K70 : Keep h0 T70.heap [a, ha, pa, oa] := K57.trans K70q (allS (Or.inl (List.mem_of_getElem? (i := 1) rfl)) (allS (Or.inl (List.mem_of_getElem? (i := 2) rfl)) all0))
  have F73 := F58.keep K70q
  have F74 := F59.keep K70q (ninS NE_a_ha (ninS NE_a_pa nin0))
  have F75 := F60.keep K70q (ninS NE_a_ha (ninS NE_a_pa nin0))
  have F76 := F61.keep K70q (ninS NE_a_ha (ninS NE_a_pa nin0))
  have F77 := F62.keep K70q (ninS NE_a_ha (ninS NE_a_pa nin0))
  have F78 := F63.keep K70q (ninS NE_a_ha (ninS NE_a_pa nin0))
  have F79 := F64.keep K70q (ninS NE_a_ha (ninS NE_a_pa nin0))
  have F80 := F65.keep K70q (ninS NE_da_ha (ninS NE_da_pa nin0))
  have F81 := F66.keep K70q (ninS (Ne.symm NE_ha_oa) (ninS (Ne.symm NE_pa_oa) nin0))
  have Z70 : n0 ≤ T70.heap.size := Nat.le_trans Z57 K70q.1
  exact own_ret0 X70 hx hlk hret (hb hby d6_63) ⟨rfl, N70, K70, F73, F74, F75, F76, F77, F78, F79, F71, F72, F81⟩ (by decide) (by decide)
theorem own_pf_of2m : plainFor own_y6 = true := by first | exact plainFor_of_name (show plainName "com/example/stickler/stickler/assignment/NodeQueue" = true by first | (simp [plainName, overriddenIn]; done) | decide +kernel) | decide +kernel
theorem own_ef_of2m (m : MethodId) (y0 : Addr) (y1 : Int32) : entryFrame m #[(.ref y0), (.int y1)] 2 = mkF m 0 #[rv y0, iv y1] [] := by first | (simp [entryFrame, mkF, argsToLocals, Value.category]; done) | rfl
def own_Qof2m (Z : State) (a : Addr) (da : Addr) (ha : Addr) (pa : Addr) (oa : Addr) (kd : ClassId) (kh : ClassId) (kp : ClassId) (ko : ClassId) (D : List Value) (H : List Value) (P : List Value) (O : List Value) (nd : Int32) (xx : Int32) (of : Int64) (dn : Int64) (dx : Int64) (ox : Int64) (h0 : Heap) (n0 : Nat) (v : Option Value) (h : Heap) (L : List Loc) : Prop := v = none ∧ Fr n0 L ∧ Keep h0 h [a, ha, pa, oa] ∧ Exa Z h a "com/example/stickler/stickler/assignment/NodeQueue" ∧ Fld Z h a "com/example/stickler/stickler/assignment/NodeQueue" "distance" "[J" (.ref da) ∧ Fld Z h a "com/example/stickler/stickler/assignment/NodeQueue" "heap" "[I" (.ref ha) ∧ Fld Z h a "com/example/stickler/stickler/assignment/NodeQueue" "place" "[I" (.ref pa) ∧ Fld Z h a "com/example/stickler/stickler/assignment/NodeQueue" "offered" "[J" (.ref oa) ∧ Fld Z h a "com/example/stickler/stickler/assignment/NodeQueue" "size" "I" (.int (3 : Int32)) ∧ Fld Z h a "com/example/stickler/stickler/assignment/NodeQueue" "offers" "J" (.long (of + (1 : Int64))) ∧ own_Ar Z h ha kh .int (((H.set 2 (.int nd)).set 2 (.int xx)).set 0 (.int nd)) ∧ own_Ar Z h pa kp .int (((P.set (nd).toNatClampNeg (.int (2 : Int32))).set (xx).toNatClampNeg (.int (2 : Int32))).set (nd).toNatClampNeg (.int (0 : Int32))) ∧ own_Ar Z h oa ko .long (O.set (nd).toNatClampNeg (.long (of + (1 : Int64))))
set_option maxRecDepth 65536 in
set_option maxHeartbeats 40000000 in
theorem own_rmof2m (l : Launch) (Z : State) (a0 : Array Value) (hw : ∀ d ∈ tables_1, d.before a0 Z = true) (ws : List Jvm.Cond) (a : Addr) (da : Addr) (ha : Addr) (pa : Addr) (oa : Addr) (kd : ClassId) (kh : ClassId) (kp : ClassId) (ko : ClassId) (D : List Value) (H : List Value) (P : List Value) (O : List Value) (nd : Int32) (xx : Int32) (of : Int64) (dn : Int64) (dx : Int64) (ox : Int64) (h0 : Heap) (n0 : Nat) (Z0 : n0 ≤ h0.size) (P0 : Exa Z h0 a "com/example/stickler/stickler/assignment/NodeQueue") (P1 : Fld Z h0 a "com/example/stickler/stickler/assignment/NodeQueue" "distance" "[J" (.ref da)) (P2 : Fld Z h0 a "com/example/stickler/stickler/assignment/NodeQueue" "heap" "[I" (.ref ha)) (P3 : Fld Z h0 a "com/example/stickler/stickler/assignment/NodeQueue" "place" "[I" (.ref pa)) (P4 : Fld Z h0 a "com/example/stickler/stickler/assignment/NodeQueue" "offered" "[J" (.ref oa)) (P5 : Fld Z h0 a "com/example/stickler/stickler/assignment/NodeQueue" "size" "I" (.int (2 : Int32))) (P6 : Fld Z h0 a "com/example/stickler/stickler/assignment/NodeQueue" "offers" "J" (.long of)) (P7 : own_Ar Z h0 da kd .long D) (P8 : own_Ar Z h0 ha kh .int H) (P9 : own_Ar Z h0 pa kp .int P) (P10 : own_Ar Z h0 oa ko .long O) (G_a : n0 ≤ a) (G_ha : n0 ≤ ha) (G_pa : n0 ≤ pa) (G_oa : n0 ≤ oa) (NE_a_da : a ≠ da) (NE_a_ha : a ≠ ha) (NE_a_pa : a ≠ pa) (NE_a_oa : a ≠ oa) (NE_da_ha : da ≠ ha) (NE_da_pa : da ≠ pa) (NE_da_oa : da ≠ oa) (NE_ha_pa : ha ≠ pa) (NE_ha_oa : ha ≠ oa) (NE_pa_oa : pa ≠ oa) (hn0 : ¬ nd < (0 : Int32)) (hnP : (nd).toNatClampNeg < P.length) (hnO : (nd).toNatClampNeg < O.length) (hpv : P[(nd).toNatClampNeg]? = some (.int (-1 : Int32))) (hH : 2 < H.length) (h0v : H[0]? = some (.int xx)) (hx0 : ¬ xx < (0 : Int32)) (hxP : (xx).toNatClampNeg < P.length) (hxn : (xx).toNatClampNeg ≠ (nd).toNatClampNeg) (hdx : D[(nd).toNatClampNeg]? = some (.long dn)) (hdy : D[(xx).toNatClampNeg]? = some (.long dx)) (hoy : O[(xx).toNatClampNeg]? = some (.long ox)) (hB : (dn < dx ∨ (dn = dx ∧ ox < (of + (1 : Int64))))) :
    MetFree l own_y6 (head1 (Jvm.Cond.code own_y6 prog_8_method_3_code 2 none :: ws) ({ frames := 2, cells := 0, slots := 0, locals := 28 } : Room)) (fun az Uz => az = #[(.ref a), (.int nd)] ∧ Z.Warmed39 Uz.vm ∧ Uz.heap = h0) (fun _ _ _ _ _ => True) (fun _ U o U' => ∃ v L, o = .returned v ∧ own_Qof2m Z a da ha pa oa kd kh kp ko D H P O nd xx of dn dx ox h0 n0 v U'.heap L ∧ FrameEnd U o U' L ({ frames := 2, cells := 0, slots := 0, locals := 28 } : Room).cells ({ frames := 2, cells := 0, slots := 0, locals := 28 } : Room).slots) := by
  refine MetFree.of_bodySF own_pf_of2m hisR ?_
  intro p e s m args below meth c s₁ Bd hml0 hP hK
  obtain ⟨rfl, hZ, hh⟩ := hP
  have hx := Bd.exec
  have hby := Bd.bytes
  have hml : c.maxLocals = 2 := hml0
  have hown : s.vm.findClass "com/example/stickler/stickler/assignment/NodeQueue" = some m.cls := findClass_of_methodNamed Bd.named
  have hnm := (name_of_methodNamed Bd.named Bd.method).1
  have hlk : meth.locks = false := BodyLoose.notSynchronized Bd
  have hret := Bd.returns
  have X0 : Stand p l e ({ frames := 2, cells := 0, slots := 0, locals := 28 } : Room) s m #[(.ref a), (.int nd)] below meth c s₁ [] 0 0 := Stand.of_body Bd
  have e0 : s₁.heap = h0 := by rw [← hh, Bd.state]; rfl
  have N0 := Fr.nil n0
  show own_E p e below (own_K s (own_Qof2m Z a da ha pa oa kd kh kp ko D H P O nd xx of dn dx ox h0 n0) ({ frames := 2, cells := 0, slots := 0, locals := 28 } : Room).cells ({ frames := 2, cells := 0, slots := 0, locals := 28 } : Room).slots) s₁ (entryFrame m #[(.ref a), (.int nd)] 2)
  refine own_S (mkF m 0 #[rv a, iv nd] []) (fun _ k => castTop (own_ef_of2m m (a) (nd)) k) ?_
  refine own_S (mkF m 1 #[rv a, iv nd] [(.ref a)]) (fun _ k => XS.aloadN X0.here hx rfl (hb hby d6_0) rfl rfl k) ?_
  obtain ⟨T1, X1, e1, st1⟩ := getF X0 hx hZ hown (host := "") (Or.inl (own_g hw (i := 17) rfl)) Via.refl e0 P4 (g := (mkF m 1 #[rv a, iv nd] [(.ref a)])) rfl rfl (hb hby d6_1)
  refine own_S (mkF m 4 #[rv a, iv nd] [(.ref oa)]) st1 ?_
  refine own_S (mkF m 5 #[rv a, iv nd] [(.int nd), (.ref oa)]) (fun _ k => XS.iloadN X1.here hx rfl (hb hby d6_4) rfl k) ?_
  refine own_S (mkF m 6 #[rv a, iv nd] [(.ref a), (.int nd), (.ref oa)]) (fun _ k => XS.aloadN X1.here hx rfl (hb hby d6_5) rfl rfl k) ?_
  refine own_S (mkF m 7 #[rv a, iv nd] [(.ref a), (.ref a), (.int nd), (.ref oa)]) (fun _ k => XS.dup X1.here hx rfl (hb hby d6_6) rfl rfl k) ?_
  obtain ⟨T2, X2, e2, st2⟩ := getF X1 hx hZ hown (host := "") (Or.inl (own_g hw (i := 41) rfl)) Via.refl e1 P6 (g := (mkF m 7 #[rv a, iv nd] [(.ref a), (.ref a), (.int nd), (.ref oa)])) rfl rfl (hb hby d6_7)
  refine own_S (mkF m 10 #[rv a, iv nd] [(.long of), (.ref a), (.int nd), (.ref oa)]) st2 ?_
  refine own_S (mkF m 11 #[rv a, iv nd] [(.long 1), (.long of), (.ref a), (.int nd), (.ref oa)]) (fun _ k => XS.lconst X2.here hx rfl (hb hby d6_10) k) ?_
  refine own_S (mkF m 12 #[rv a, iv nd] [(.long (of + (1 : Int64))), (.ref a), (.int nd), (.ref oa)]) (fun _ k => XS.ladd X2.here hx rfl (hb hby d6_11) rfl k) ?_
  refine own_S (mkF m 13 #[rv a, iv nd] [(.long (of + (1 : Int64))), (.ref a), (.long (of + (1 : Int64))), (.int nd), (.ref oa)]) (fun _ k => own_dup2x1 X2.here hx rfl (hb hby d6_12) rfl rfl k) ?_
  obtain ⟨T3, h3, X3, e3, W3, st3⟩ := putF X2 hx hZ hown (host := "") (Or.inl (own_g hw (i := 41) rfl)) Via.refl e2 P6 P0 (Or.inl (own_g hw (i := 42) rfl)) (own_g hw (i := 2) rfl) (ty := .long) (by decide) rfl rfl (g := (mkF m 13 #[rv a, iv nd] [(.long (of + (1 : Int64))), (.ref a), (.long (of + (1 : Int64))), (.int nd), (.ref oa)])) rfl rfl (hb hby d6_13)
  refine own_S (mkF m 16 #[rv a, iv nd] [(.long (of + (1 : Int64))), (.int nd), (.ref oa)]) st3 ?_
  have F4 := P0.wr W3
  have F5 := P1.other W3 (Or.inr (slot_ne (Or.inr (own_g hw (i := 11) rfl)) (Or.inl (own_g hw (i := 42) rfl)) (by decide) (t := (.array .long)) (t' := .long) (by decide) (by decide)))
  have F6 := P2.other W3 (Or.inr (slot_ne (Or.inr (own_g hw (i := 14) rfl)) (Or.inl (own_g hw (i := 42) rfl)) (by decide) (t := (.array .int)) (t' := .long) (by decide) (by decide)))
  have F7 := P3.other W3 (Or.inr (slot_ne (Or.inr (own_g hw (i := 16) rfl)) (Or.inl (own_g hw (i := 42) rfl)) (by decide) (t := (.array .int)) (t' := .long) (by decide) (by decide)))
  have F8 := P4.other W3 (Or.inr (slot_ne (Or.inr (own_g hw (i := 18) rfl)) (Or.inl (own_g hw (i := 42) rfl)) (by decide) (t := (.array .long)) (t' := .long) (by decide) (by decide)))
  have F9 := P5.other W3 (Or.inr (slot_ne (Or.inl (own_g hw (i := 29) rfl)) (Or.inl (own_g hw (i := 42) rfl)) (by decide) (t := .int) (t' := .long) (by decide) (by decide)))
  have F10 := P6.same W3
  have F11 := P7.other W3 (Ne.symm NE_a_da)
  have F12 := P8.other W3 (Ne.symm NE_a_ha)
  have F13 := P9.other W3 (Ne.symm NE_a_pa)
  have F14 := P10.other W3 (Ne.symm NE_a_oa)
  have N3 := Fr.snoc X3 N0 G_a
  have Z3 : n0 ≤ h3.size := by rw [Wr.size W3]; exact Z0
  have K3 : Keep h0 h3 [a, ha, pa, oa] := (Keep.refl _ _).wr W3 (Or.inl (List.mem_of_getElem? (i := 0) rfl))
  obtain ⟨T15, h15, X15, e15, W15, AR15, st15⟩ := own_stJ (j := nd) X3 hx hZ e3 F14 hn0 hnO (g := (mkF m 16 #[rv a, iv nd] [(.long (of + (1 : Int64))), (.int nd), (.ref oa)])) rfl rfl (hb hby d6_16)
  refine own_S (mkF m 17 #[rv a, iv nd] []) st15 ?_
  have F16 := F4.wr W15
  have F17 := F5.other W15 (Or.inl NE_a_oa)
  have F18 := F6.other W15 (Or.inl NE_a_oa)
  have F19 := F7.other W15 (Or.inl NE_a_oa)
  have F20 := F8.other W15 (Or.inl NE_a_oa)
  have F21 := F9.other W15 (Or.inl NE_a_oa)
  have F22 := F10.other W15 (Or.inl NE_a_oa)
  have F23 := F11.other W15 NE_da_oa
  have F24 := F12.other W15 NE_ha_oa
  have F25 := F13.other W15 NE_pa_oa
  have F26 : own_Ar Z h15 oa ko .long (O.set (nd).toNatClampNeg (.long (of + (1 : Int64)))) := AR15
  have N15 := Fr.snoc X15 N3 G_oa
  have Z15 : n0 ≤ h15.size := by rw [Wr.size W15]; exact Z3
  have K15 : Keep h0 h15 [a, ha, pa, oa] := K3.wr W15 (Or.inl (List.mem_of_getElem? (i := 3) rfl))
  refine own_S (mkF m 18 #[rv a, iv nd] [(.ref a)]) (fun _ k => XS.aloadN X15.here hx rfl (hb hby d6_17) rfl rfl k) ?_
  obtain ⟨T27, X27, e27, st27⟩ := getF X15 hx hZ hown (host := "") (Or.inl (own_g hw (i := 15) rfl)) Via.refl e15 F19 (g := (mkF m 18 #[rv a, iv nd] [(.ref a)])) rfl rfl (hb hby d6_18)
  refine own_S (mkF m 21 #[rv a, iv nd] [(.ref pa)]) st27 ?_
  refine own_S (mkF m 22 #[rv a, iv nd] [(.int nd), (.ref pa)]) (fun _ k => XS.iloadN X27.here hx rfl (hb hby d6_21) rfl k) ?_
  refine own_S (mkF m 23 #[rv a, iv nd] [(.int (-1))]) (fun _ k => own_ldI (j := nd) (v := (.int (-1))) X27 hx hZ e27 F25 hn0 hpv (g := (mkF m 22 #[rv a, iv nd] [(.int nd), (.ref pa)])) rfl rfl (hb hby d6_22) _ k) ?_
  have hc28 : (-1 : Int32) < (0 : Int32) := by decide
  refine own_S (mkF m 26 #[rv a, iv nd] []) (fun _ k => XS.ifNo X27.here hx rfl (hb hby d6_23) rfl ((if0 _ _).trans (tlt hc28).2.1) k) ?_
  refine own_S (mkF m 27 #[rv a, iv nd] [(.ref a)]) (fun _ k => XS.aloadN X27.here hx rfl (hb hby d6_26) rfl rfl k) ?_
  obtain ⟨T29, X29, e29, st29⟩ := getF X27 hx hZ hown (host := "") (Or.inl (own_g hw (i := 13) rfl)) Via.refl e27 F18 (g := (mkF m 27 #[rv a, iv nd] [(.ref a)])) rfl rfl (hb hby d6_27)
  refine own_S (mkF m 30 #[rv a, iv nd] [(.ref ha)]) st29 ?_
  refine own_S (mkF m 31 #[rv a, iv nd] [(.ref a), (.ref ha)]) (fun _ k => XS.aloadN X29.here hx rfl (hb hby d6_30) rfl rfl k) ?_
  obtain ⟨T30, X30, e30, st30⟩ := getF X29 hx hZ hown (host := "") (Or.inl (own_g hw (i := 28) rfl)) Via.refl e29 F21 (g := (mkF m 31 #[rv a, iv nd] [(.ref a), (.ref ha)])) rfl rfl (hb hby d6_31)
  refine own_S (mkF m 34 #[rv a, iv nd] [(.int 2), (.ref ha)]) st30 ?_
  refine own_S (mkF m 35 #[rv a, iv nd] [(.int nd), (.int 2), (.ref ha)]) (fun _ k => XS.iloadN X30.here hx rfl (hb hby d6_34) rfl k) ?_
  obtain ⟨T31, h31, X31, e31, W31, AR31, st31⟩ := own_stI (j := (2 : Int32)) X30 hx hZ e30 F24 (by decide) hH (g := (mkF m 35 #[rv a, iv nd] [(.int nd), (.int 2), (.ref ha)])) rfl rfl (hb hby d6_35)
  refine own_S (mkF m 36 #[rv a, iv nd] []) st31 ?_
  have F32 := F16.wr W31
  have F33 := F17.other W31 (Or.inl NE_a_ha)
  have F34 := F18.other W31 (Or.inl NE_a_ha)
  have F35 := F19.other W31 (Or.inl NE_a_ha)
  have F36 := F20.other W31 (Or.inl NE_a_ha)
  have F37 := F21.other W31 (Or.inl NE_a_ha)
  have F38 := F22.other W31 (Or.inl NE_a_ha)
  have F39 := F23.other W31 NE_da_ha
  have F40 := F25.other W31 (Ne.symm NE_ha_pa)
  have F41 := F26.other W31 (Ne.symm NE_ha_oa)
  have F42 : own_Ar Z h31 ha kh .int (H.set 2 (.int nd)) := AR31
  have N31 := Fr.snoc X31 N15 G_ha
  have Z31 : n0 ≤ h31.size := by rw [Wr.size W31]; exact Z15
  have K31 : Keep h0 h31 [a, ha, pa, oa] := K15.wr W31 (Or.inl (List.mem_of_getElem? (i := 1) rfl))
  refine own_S (mkF m 37 #[rv a, iv nd] [(.ref a)]) (fun _ k => XS.aloadN X31.here hx rfl (hb hby d6_36) rfl rfl k) ?_
  obtain ⟨T43, X43, e43, st43⟩ := getF X31 hx hZ hown (host := "") (Or.inl (own_g hw (i := 15) rfl)) Via.refl e31 F35 (g := (mkF m 37 #[rv a, iv nd] [(.ref a)])) rfl rfl (hb hby d6_37)
  refine own_S (mkF m 40 #[rv a, iv nd] [(.ref pa)]) st43 ?_
  refine own_S (mkF m 41 #[rv a, iv nd] [(.int nd), (.ref pa)]) (fun _ k => XS.iloadN X43.here hx rfl (hb hby d6_40) rfl k) ?_
  refine own_S (mkF m 42 #[rv a, iv nd] [(.ref a), (.int nd), (.ref pa)]) (fun _ k => XS.aloadN X43.here hx rfl (hb hby d6_41) rfl rfl k) ?_
  refine own_S (mkF m 43 #[rv a, iv nd] [(.ref a), (.ref a), (.int nd), (.ref pa)]) (fun _ k => XS.dup X43.here hx rfl (hb hby d6_42) rfl rfl k) ?_
  obtain ⟨T44, X44, e44, st44⟩ := getF X43 hx hZ hown (host := "") (Or.inl (own_g hw (i := 28) rfl)) Via.refl e43 F37 (g := (mkF m 43 #[rv a, iv nd] [(.ref a), (.ref a), (.int nd), (.ref pa)])) rfl rfl (hb hby d6_43)
  refine own_S (mkF m 46 #[rv a, iv nd] [(.int 2), (.ref a), (.int nd), (.ref pa)]) st44 ?_
  refine own_S (mkF m 47 #[rv a, iv nd] [(.int 2), (.ref a), (.int 2), (.int nd), (.ref pa)]) (fun _ k => XS.dupX1 X44.here hx rfl (hb hby d6_46) rfl rfl rfl k) ?_
  refine own_S (mkF m 48 #[rv a, iv nd] [(.int 1), (.int 2), (.ref a), (.int 2), (.int nd), (.ref pa)]) (fun _ k => XS.iconst X44.here hx rfl (hb hby d6_47) k) ?_
  refine own_S (mkF m 49 #[rv a, iv nd] [(.int 3), (.ref a), (.int 2), (.int nd), (.ref pa)]) (fun _ k => XS.iadd X44.here hx rfl (hb hby d6_48) rfl k) ?_
  obtain ⟨T45, h45, X45, e45, W45, st45⟩ := putF X44 hx hZ hown (host := "") (Or.inl (own_g hw (i := 28) rfl)) Via.refl e44 F37 F32 (Or.inl (own_g hw (i := 29) rfl)) (own_g hw (i := 2) rfl) (ty := .int) (by decide) rfl rfl (g := (mkF m 49 #[rv a, iv nd] [(.int 3), (.ref a), (.int 2), (.int nd), (.ref pa)])) rfl rfl (hb hby d6_49)
  refine own_S (mkF m 52 #[rv a, iv nd] [(.int 2), (.int nd), (.ref pa)]) st45 ?_
  have F46 := F32.wr W45
  have F47 := F33.other W45 (Or.inr (slot_ne (Or.inr (own_g hw (i := 11) rfl)) (Or.inl (own_g hw (i := 29) rfl)) (by decide) (t := (.array .long)) (t' := .int) (by decide) (by decide)))
  have F48 := F34.other W45 (Or.inr (slot_ne (Or.inr (own_g hw (i := 14) rfl)) (Or.inl (own_g hw (i := 29) rfl)) (by decide) (t := (.array .int)) (t' := .int) (by decide) (by decide)))
  have F49 := F35.other W45 (Or.inr (slot_ne (Or.inr (own_g hw (i := 16) rfl)) (Or.inl (own_g hw (i := 29) rfl)) (by decide) (t := (.array .int)) (t' := .int) (by decide) (by decide)))
  have F50 := F36.other W45 (Or.inr (slot_ne (Or.inr (own_g hw (i := 18) rfl)) (Or.inl (own_g hw (i := 29) rfl)) (by decide) (t := (.array .long)) (t' := .int) (by decide) (by decide)))
  have F51 := F37.same W45
  have F52 := F38.other W45 (Or.inr (slot_ne (Or.inl (own_g hw (i := 42) rfl)) (Or.inl (own_g hw (i := 29) rfl)) (by decide) (t := .long) (t' := .int) (by decide) (by decide)))
  have F53 := F39.other W45 (Ne.symm NE_a_da)
  have F54 := F40.other W45 (Ne.symm NE_a_pa)
  have F55 := F41.other W45 (Ne.symm NE_a_oa)
  have F56 := F42.other W45 (Ne.symm NE_a_ha)
  have N45 := Fr.snoc X45 N31 G_a
  have Z45 : n0 ≤ h45.size := by rw [Wr.size W45]; exact Z31
  have K45 : Keep h0 h45 [a, ha, pa, oa] := K31.wr W45 (Or.inl (List.mem_of_getElem? (i := 0) rfl))
  obtain ⟨T57, h57, X57, e57, W57, AR57, st57⟩ := own_stI (j := nd) X45 hx hZ e45 F54 hn0 hnP (g := (mkF m 52 #[rv a, iv nd] [(.int 2), (.int nd), (.ref pa)])) rfl rfl (hb hby d6_52)
  refine own_S (mkF m 53 #[rv a, iv nd] []) st57 ?_
  have F58 := F46.wr W57
  have F59 := F47.other W57 (Or.inl NE_a_pa)
  have F60 := F48.other W57 (Or.inl NE_a_pa)
  have F61 := F49.other W57 (Or.inl NE_a_pa)
  have F62 := F50.other W57 (Or.inl NE_a_pa)
  have F63 := F51.other W57 (Or.inl NE_a_pa)
  have F64 := F52.other W57 (Or.inl NE_a_pa)
  have F65 := F53.other W57 NE_da_pa
  have F66 := F55.other W57 (Ne.symm NE_pa_oa)
  have F67 := F56.other W57 NE_ha_pa
  have F68 : own_Ar Z h57 pa kp .int (P.set (nd).toNatClampNeg (.int (2 : Int32))) := AR57
  have N57 := Fr.snoc X57 N45 G_pa
  have Z57 : n0 ≤ h57.size := by rw [Wr.size W57]; exact Z45
  have K57 : Keep h0 h57 [a, ha, pa, oa] := K45.wr W57 (Or.inl (List.mem_of_getElem? (i := 2) rfl))
  refine own_S (mkF m 54 #[rv a, iv nd] [(.ref a)]) (fun _ k => XS.aloadN X57.here hx rfl (hb hby d6_53) rfl rfl k) ?_
  refine own_S (mkF m 55 #[rv a, iv nd] [(.ref a), (.ref a)]) (fun _ k => XS.aloadN X57.here hx rfl (hb hby d6_54) rfl rfl k) ?_
  obtain ⟨T69, X69, e69, st69⟩ := getF X57 hx hZ hown (host := "") (Or.inl (own_g hw (i := 15) rfl)) Via.refl e57 F61 (g := (mkF m 55 #[rv a, iv nd] [(.ref a), (.ref a)])) rfl rfl (hb hby d6_55)
  refine own_S (mkF m 58 #[rv a, iv nd] [(.ref pa), (.ref a)]) st69 ?_
  refine own_S (mkF m 59 #[rv a, iv nd] [(.int nd), (.ref pa), (.ref a)]) (fun _ k => XS.iloadN X69.here hx rfl (hb hby d6_58) rfl k) ?_
  refine own_S (mkF m 60 #[rv a, iv nd] [(.int 2), (.ref a)]) (fun _ k => own_ldI (j := nd) (v := (.int 2)) X69 hx hZ e69 F68 hn0 (own_set_at hnP) (g := (mkF m 59 #[rv a, iv nd] [(.int nd), (.ref pa), (.ref a)])) rfl rfl (hb hby d6_59) _ k) ?_
  obtain ⟨cq70, q70a, q70b⟩ := Exa.cell F58
  obtain ⟨_, _, ⟨T70, L70, k70, n70⟩, -, X70, ⟨Lc70, hQ70, l70, y70, z70⟩, st70⟩ := X69.privateBack hx (y := own_y5) hown (mvT hZ (own_g hw (i := 43) rfl)) (mvT hZ (own_g hw (i := 44) rfl)) (own_selP (mvT hZ (own_g hw (i := 2) rfl)) (Cond.privateMethod_at (mvP hZ (own_g hw (i := 45) rfl) (args := #[]))) (mvT hZ (own_g hw (i := 44) rfl)) (by decide)) (Cond.privateMethod_at (mvP hZ (own_g hw (i := 45) rfl) (args := #[]))) (mvT hZ (own_g hw (i := 46) rfl)) (by decide) (backOf (W := 0) (own_rmsu2m l Z a0 hw [] (a) (da) (ha) (pa) (oa) (kd) (kh) (kp) (ko) (D) ((H.set 2 (.int nd))) ((P.set (nd).toNatClampNeg (.int (2 : Int32)))) ((O.set (nd).toNatClampNeg (.long (of + (1 : Int64))))) (nd) (xx) (dn) (dx) ((of + (1 : Int64))) (ox) h57 n0 Z57 F58 F59 F60 F61 F62 F65 F67 F68 F66 G_ha G_pa NE_a_da NE_a_ha NE_a_pa NE_a_oa NE_da_ha NE_da_pa NE_da_oa NE_ha_pa NE_ha_oa NE_pa_oa (own_set_ne (by decide) h0v) (own_set_at hH) hn0 (by rw [List.length_set]; exact hnP) hx0 (by rw [List.length_set]; exact hxP) hdx hdy (own_set_at hnO) (own_set_ne hxn.symm hoy) hB) hZ (own_g hw (i := 46) rfl) (own_g hw (i := 3) rfl) (by decide) (by decide)) (g := (mkF m 60 #[rv a, iv nd] [(.int 2), (.ref a)])) rfl (by rw [hml]; rfl) (Steps.refl _) (a := a) (by rw [e69]; exact q70a) q70b (argsL := [(.int 2)]) (rest := []) (lenOf own_pd__I_V rfl) rfl (by show 2 * 0 + _ ≤ _; exact Nat.le_of_eq rfl) (hb hby d6_60) (fun _ _ => ⟨rfl, e69, (by decide : 0 + 0 ≤ _), (by decide : 0 + 0 ≤ _)⟩)
  dsimp only [Pt.U, Pt.locs, Pt.cells, Pt.slots] at X70 l70 y70 z70 st70 hQ70
  subst l70 y70 z70
  obtain ⟨rfl, N70q, K70q, F71, F72⟩ := hQ70
  have N70 := Fr.app N57 N70q
  refine own_S (mkF m 63 #[rv a, iv nd] []) (fun _ k => st70.trans k) ?_
  have K70 : Keep h0 T70.heap [a, ha, pa, oa] := K57.trans K70q (allS (Or.inl (List.mem_of_getElem? (i := 1) rfl)) (allS (Or.inl (List.mem_of_getElem? (i := 2) rfl)) all0))
  have F73 := F58.keep K70q
  have F74 := F59.keep K70q (ninS NE_a_ha (ninS NE_a_pa nin0))
  have F75 := F60.keep K70q (ninS NE_a_ha (ninS NE_a_pa nin0))
  have F76 := F61.keep K70q (ninS NE_a_ha (ninS NE_a_pa nin0))
  have F77 := F62.keep K70q (ninS NE_a_ha (ninS NE_a_pa nin0))
  have F78 := F63.keep K70q (ninS NE_a_ha (ninS NE_a_pa nin0))
  have F79 := F64.keep K70q (ninS NE_a_ha (ninS NE_a_pa nin0))
  have F80 := F65.keep K70q (ninS NE_da_ha (ninS NE_da_pa nin0))
  have F81 := F66.keep K70q (ninS (Ne.symm NE_ha_oa) (ninS (Ne.symm NE_pa_oa) nin0))
  have Z70 : n0 ≤ T70.heap.size := Nat.le_trans Z57 K70q.1
  exact own_ret0 X70 hx hlk hret (hb hby d6_63) ⟨rfl, N70, K70, F73, F74, F75, F76, F77, F78, F79, F71, F72, F81⟩ (by decide) (by decide)
theorem own_pf_of2n : plainFor own_y6 = true := by first | exact plainFor_of_name (show plainName "com/example/stickler/stickler/assignment/NodeQueue" = true by first | (simp [plainName, overriddenIn]; done) | decide +kernel) | decide +kernel
theorem own_ef_of2n (m : MethodId) (y0 : Addr) (y1 : Int32) : entryFrame m #[(.ref y0), (.int y1)] 2 = mkF m 0 #[rv y0, iv y1] [] := by first | (simp [entryFrame, mkF, argsToLocals, Value.category]; done) | rfl
def own_Qof2n (Z : State) (a : Addr) (da : Addr) (ha : Addr) (pa : Addr) (oa : Addr) (kd : ClassId) (kh : ClassId) (kp : ClassId) (ko : ClassId) (D : List Value) (H : List Value) (P : List Value) (O : List Value) (nd : Int32) (xx : Int32) (of : Int64) (dn : Int64) (dx : Int64) (ox : Int64) (h0 : Heap) (n0 : Nat) (v : Option Value) (h : Heap) (L : List Loc) : Prop := v = none ∧ Fr n0 L ∧ Keep h0 h [a, ha, pa, oa] ∧ Exa Z h a "com/example/stickler/stickler/assignment/NodeQueue" ∧ Fld Z h a "com/example/stickler/stickler/assignment/NodeQueue" "distance" "[J" (.ref da) ∧ Fld Z h a "com/example/stickler/stickler/assignment/NodeQueue" "heap" "[I" (.ref ha) ∧ Fld Z h a "com/example/stickler/stickler/assignment/NodeQueue" "place" "[I" (.ref pa) ∧ Fld Z h a "com/example/stickler/stickler/assignment/NodeQueue" "offered" "[J" (.ref oa) ∧ Fld Z h a "com/example/stickler/stickler/assignment/NodeQueue" "size" "I" (.int (3 : Int32)) ∧ Fld Z h a "com/example/stickler/stickler/assignment/NodeQueue" "offers" "J" (.long (of + (1 : Int64))) ∧ own_Ar Z h ha kh .int ((H.set 2 (.int nd)).set 2 (.int nd)) ∧ own_Ar Z h pa kp .int ((P.set (nd).toNatClampNeg (.int (2 : Int32))).set (nd).toNatClampNeg (.int (2 : Int32))) ∧ own_Ar Z h oa ko .long (O.set (nd).toNatClampNeg (.long (of + (1 : Int64))))
set_option maxRecDepth 65536 in
set_option maxHeartbeats 40000000 in
theorem own_rmof2n (l : Launch) (Z : State) (a0 : Array Value) (hw : ∀ d ∈ tables_1, d.before a0 Z = true) (ws : List Jvm.Cond) (a : Addr) (da : Addr) (ha : Addr) (pa : Addr) (oa : Addr) (kd : ClassId) (kh : ClassId) (kp : ClassId) (ko : ClassId) (D : List Value) (H : List Value) (P : List Value) (O : List Value) (nd : Int32) (xx : Int32) (of : Int64) (dn : Int64) (dx : Int64) (ox : Int64) (h0 : Heap) (n0 : Nat) (Z0 : n0 ≤ h0.size) (P0 : Exa Z h0 a "com/example/stickler/stickler/assignment/NodeQueue") (P1 : Fld Z h0 a "com/example/stickler/stickler/assignment/NodeQueue" "distance" "[J" (.ref da)) (P2 : Fld Z h0 a "com/example/stickler/stickler/assignment/NodeQueue" "heap" "[I" (.ref ha)) (P3 : Fld Z h0 a "com/example/stickler/stickler/assignment/NodeQueue" "place" "[I" (.ref pa)) (P4 : Fld Z h0 a "com/example/stickler/stickler/assignment/NodeQueue" "offered" "[J" (.ref oa)) (P5 : Fld Z h0 a "com/example/stickler/stickler/assignment/NodeQueue" "size" "I" (.int (2 : Int32))) (P6 : Fld Z h0 a "com/example/stickler/stickler/assignment/NodeQueue" "offers" "J" (.long of)) (P7 : own_Ar Z h0 da kd .long D) (P8 : own_Ar Z h0 ha kh .int H) (P9 : own_Ar Z h0 pa kp .int P) (P10 : own_Ar Z h0 oa ko .long O) (G_a : n0 ≤ a) (G_ha : n0 ≤ ha) (G_pa : n0 ≤ pa) (G_oa : n0 ≤ oa) (NE_a_da : a ≠ da) (NE_a_ha : a ≠ ha) (NE_a_pa : a ≠ pa) (NE_a_oa : a ≠ oa) (NE_da_ha : da ≠ ha) (NE_da_pa : da ≠ pa) (NE_da_oa : da ≠ oa) (NE_ha_pa : ha ≠ pa) (NE_ha_oa : ha ≠ oa) (NE_pa_oa : pa ≠ oa) (hn0 : ¬ nd < (0 : Int32)) (hnP : (nd).toNatClampNeg < P.length) (hnO : (nd).toNatClampNeg < O.length) (hpv : P[(nd).toNatClampNeg]? = some (.int (-1 : Int32))) (hH : 2 < H.length) (h0v : H[0]? = some (.int xx)) (hx0 : ¬ xx < (0 : Int32)) (hxP : (xx).toNatClampNeg < P.length) (hxn : (xx).toNatClampNeg ≠ (nd).toNatClampNeg) (hdx : D[(nd).toNatClampNeg]? = some (.long dn)) (hdy : D[(xx).toNatClampNeg]? = some (.long dx)) (hoy : O[(xx).toNatClampNeg]? = some (.long ox)) (hB : ¬ (dn < dx ∨ (dn = dx ∧ ox < (of + (1 : Int64))))) :
    MetFree l own_y6 (head1 (Jvm.Cond.code own_y6 prog_8_method_3_code 2 none :: ws) ({ frames := 2, cells := 0, slots := 0, locals := 28 } : Room)) (fun az Uz => az = #[(.ref a), (.int nd)] ∧ Z.Warmed39 Uz.vm ∧ Uz.heap = h0) (fun _ _ _ _ _ => True) (fun _ U o U' => ∃ v L, o = .returned v ∧ own_Qof2n Z a da ha pa oa kd kh kp ko D H P O nd xx of dn dx ox h0 n0 v U'.heap L ∧ FrameEnd U o U' L ({ frames := 2, cells := 0, slots := 0, locals := 28 } : Room).cells ({ frames := 2, cells := 0, slots := 0, locals := 28 } : Room).slots) := by
  refine MetFree.of_bodySF own_pf_of2n hisR ?_
  intro p e s m args below meth c s₁ Bd hml0 hP hK
  obtain ⟨rfl, hZ, hh⟩ := hP
  have hx := Bd.exec
  have hby := Bd.bytes
  have hml : c.maxLocals = 2 := hml0
  have hown : s.vm.findClass "com/example/stickler/stickler/assignment/NodeQueue" = some m.cls := findClass_of_methodNamed Bd.named
  have hnm := (name_of_methodNamed Bd.named Bd.method).1
  have hlk : meth.locks = false := BodyLoose.notSynchronized Bd
  have hret := Bd.returns
  have X0 : Stand p l e ({ frames := 2, cells := 0, slots := 0, locals := 28 } : Room) s m #[(.ref a), (.int nd)] below meth c s₁ [] 0 0 := Stand.of_body Bd
  have e0 : s₁.heap = h0 := by rw [← hh, Bd.state]; rfl
  have N0 := Fr.nil n0
  show own_E p e below (own_K s (own_Qof2n Z a da ha pa oa kd kh kp ko D H P O nd xx of dn dx ox h0 n0) ({ frames := 2, cells := 0, slots := 0, locals := 28 } : Room).cells ({ frames := 2, cells := 0, slots := 0, locals := 28 } : Room).slots) s₁ (entryFrame m #[(.ref a), (.int nd)] 2)
  refine own_S (mkF m 0 #[rv a, iv nd] []) (fun _ k => castTop (own_ef_of2n m (a) (nd)) k) ?_
  refine own_S (mkF m 1 #[rv a, iv nd] [(.ref a)]) (fun _ k => XS.aloadN X0.here hx rfl (hb hby d6_0) rfl rfl k) ?_
  obtain ⟨T1, X1, e1, st1⟩ := getF X0 hx hZ hown (host := "") (Or.inl (own_g hw (i := 17) rfl)) Via.refl e0 P4 (g := (mkF m 1 #[rv a, iv nd] [(.ref a)])) rfl rfl (hb hby d6_1)
  refine own_S (mkF m 4 #[rv a, iv nd] [(.ref oa)]) st1 ?_
  refine own_S (mkF m 5 #[rv a, iv nd] [(.int nd), (.ref oa)]) (fun _ k => XS.iloadN X1.here hx rfl (hb hby d6_4) rfl k) ?_
  refine own_S (mkF m 6 #[rv a, iv nd] [(.ref a), (.int nd), (.ref oa)]) (fun _ k => XS.aloadN X1.here hx rfl (hb hby d6_5) rfl rfl k) ?_
  refine own_S (mkF m 7 #[rv a, iv nd] [(.ref a), (.ref a), (.int nd), (.ref oa)]) (fun _ k => XS.dup X1.here hx rfl (hb hby d6_6) rfl rfl k) ?_
  obtain ⟨T2, X2, e2, st2⟩ := getF X1 hx hZ hown (host := "") (Or.inl (own_g hw (i := 41) rfl)) Via.refl e1 P6 (g := (mkF m 7 #[rv a, iv nd] [(.ref a), (.ref a), (.int nd), (.ref oa)])) rfl rfl (hb hby d6_7)
  refine own_S (mkF m 10 #[rv a, iv nd] [(.long of), (.ref a), (.int nd), (.ref oa)]) st2 ?_
  refine own_S (mkF m 11 #[rv a, iv nd] [(.long 1), (.long of), (.ref a), (.int nd), (.ref oa)]) (fun _ k => XS.lconst X2.here hx rfl (hb hby d6_10) k) ?_
  refine own_S (mkF m 12 #[rv a, iv nd] [(.long (of + (1 : Int64))), (.ref a), (.int nd), (.ref oa)]) (fun _ k => XS.ladd X2.here hx rfl (hb hby d6_11) rfl k) ?_
  refine own_S (mkF m 13 #[rv a, iv nd] [(.long (of + (1 : Int64))), (.ref a), (.long (of + (1 : Int64))), (.int nd), (.ref oa)]) (fun _ k => own_dup2x1 X2.here hx rfl (hb hby d6_12) rfl rfl k) ?_
  obtain ⟨T3, h3, X3, e3, W3, st3⟩ := putF X2 hx hZ hown (host := "") (Or.inl (own_g hw (i := 41) rfl)) Via.refl e2 P6 P0 (Or.inl (own_g hw (i := 42) rfl)) (own_g hw (i := 2) rfl) (ty := .long) (by decide) rfl rfl (g := (mkF m 13 #[rv a, iv nd] [(.long (of + (1 : Int64))), (.ref a), (.long (of + (1 : Int64))), (.int nd), (.ref oa)])) rfl rfl (hb hby d6_13)
  refine own_S (mkF m 16 #[rv a, iv nd] [(.long (of + (1 : Int64))), (.int nd), (.ref oa)]) st3 ?_
  have F4 := P0.wr W3
  have F5 := P1.other W3 (Or.inr (slot_ne (Or.inr (own_g hw (i := 11) rfl)) (Or.inl (own_g hw (i := 42) rfl)) (by decide) (t := (.array .long)) (t' := .long) (by decide) (by decide)))
  have F6 := P2.other W3 (Or.inr (slot_ne (Or.inr (own_g hw (i := 14) rfl)) (Or.inl (own_g hw (i := 42) rfl)) (by decide) (t := (.array .int)) (t' := .long) (by decide) (by decide)))
  have F7 := P3.other W3 (Or.inr (slot_ne (Or.inr (own_g hw (i := 16) rfl)) (Or.inl (own_g hw (i := 42) rfl)) (by decide) (t := (.array .int)) (t' := .long) (by decide) (by decide)))
  have F8 := P4.other W3 (Or.inr (slot_ne (Or.inr (own_g hw (i := 18) rfl)) (Or.inl (own_g hw (i := 42) rfl)) (by decide) (t := (.array .long)) (t' := .long) (by decide) (by decide)))
  have F9 := P5.other W3 (Or.inr (slot_ne (Or.inl (own_g hw (i := 29) rfl)) (Or.inl (own_g hw (i := 42) rfl)) (by decide) (t := .int) (t' := .long) (by decide) (by decide)))
  have F10 := P6.same W3
  have F11 := P7.other W3 (Ne.symm NE_a_da)
  have F12 := P8.other W3 (Ne.symm NE_a_ha)
  have F13 := P9.other W3 (Ne.symm NE_a_pa)
  have F14 := P10.other W3 (Ne.symm NE_a_oa)
  have N3 := Fr.snoc X3 N0 G_a
  have Z3 : n0 ≤ h3.size := by rw [Wr.size W3]; exact Z0
  have K3 : Keep h0 h3 [a, ha, pa, oa] := (Keep.refl _ _).wr W3 (Or.inl (List.mem_of_getElem? (i := 0) rfl))
  obtain ⟨T15, h15, X15, e15, W15, AR15, st15⟩ := own_stJ (j := nd) X3 hx hZ e3 F14 hn0 hnO (g := (mkF m 16 #[rv a, iv nd] [(.long (of + (1 : Int64))), (.int nd), (.ref oa)])) rfl rfl (hb hby d6_16)
  refine own_S (mkF m 17 #[rv a, iv nd] []) st15 ?_
  have F16 := F4.wr W15
  have F17 := F5.other W15 (Or.inl NE_a_oa)
  have F18 := F6.other W15 (Or.inl NE_a_oa)
  have F19 := F7.other W15 (Or.inl NE_a_oa)
  have F20 := F8.other W15 (Or.inl NE_a_oa)
  have F21 := F9.other W15 (Or.inl NE_a_oa)
  have F22 := F10.other W15 (Or.inl NE_a_oa)
  have F23 := F11.other W15 NE_da_oa
  have F24 := F12.other W15 NE_ha_oa
  have F25 := F13.other W15 NE_pa_oa
  have F26 : own_Ar Z h15 oa ko .long (O.set (nd).toNatClampNeg (.long (of + (1 : Int64)))) := AR15
  have N15 := Fr.snoc X15 N3 G_oa
  have Z15 : n0 ≤ h15.size := by rw [Wr.size W15]; exact Z3
  have K15 : Keep h0 h15 [a, ha, pa, oa] := K3.wr W15 (Or.inl (List.mem_of_getElem? (i := 3) rfl))
  refine own_S (mkF m 18 #[rv a, iv nd] [(.ref a)]) (fun _ k => XS.aloadN X15.here hx rfl (hb hby d6_17) rfl rfl k) ?_
  obtain ⟨T27, X27, e27, st27⟩ := getF X15 hx hZ hown (host := "") (Or.inl (own_g hw (i := 15) rfl)) Via.refl e15 F19 (g := (mkF m 18 #[rv a, iv nd] [(.ref a)])) rfl rfl (hb hby d6_18)
  refine own_S (mkF m 21 #[rv a, iv nd] [(.ref pa)]) st27 ?_
  refine own_S (mkF m 22 #[rv a, iv nd] [(.int nd), (.ref pa)]) (fun _ k => XS.iloadN X27.here hx rfl (hb hby d6_21) rfl k) ?_
  refine own_S (mkF m 23 #[rv a, iv nd] [(.int (-1))]) (fun _ k => own_ldI (j := nd) (v := (.int (-1))) X27 hx hZ e27 F25 hn0 hpv (g := (mkF m 22 #[rv a, iv nd] [(.int nd), (.ref pa)])) rfl rfl (hb hby d6_22) _ k) ?_
  have hc28 : (-1 : Int32) < (0 : Int32) := by decide
  refine own_S (mkF m 26 #[rv a, iv nd] []) (fun _ k => XS.ifNo X27.here hx rfl (hb hby d6_23) rfl ((if0 _ _).trans (tlt hc28).2.1) k) ?_
  refine own_S (mkF m 27 #[rv a, iv nd] [(.ref a)]) (fun _ k => XS.aloadN X27.here hx rfl (hb hby d6_26) rfl rfl k) ?_
  obtain ⟨T29, X29, e29, st29⟩ := getF X27 hx hZ hown (host := "") (Or.inl (own_g hw (i := 13) rfl)) Via.refl e27 F18 (g := (mkF m 27 #[rv a, iv nd] [(.ref a)])) rfl rfl (hb hby d6_27)
  refine own_S (mkF m 30 #[rv a, iv nd] [(.ref ha)]) st29 ?_
  refine own_S (mkF m 31 #[rv a, iv nd] [(.ref a), (.ref ha)]) (fun _ k => XS.aloadN X29.here hx rfl (hb hby d6_30) rfl rfl k) ?_
  obtain ⟨T30, X30, e30, st30⟩ := getF X29 hx hZ hown (host := "") (Or.inl (own_g hw (i := 28) rfl)) Via.refl e29 F21 (g := (mkF m 31 #[rv a, iv nd] [(.ref a), (.ref ha)])) rfl rfl (hb hby d6_31)
  refine own_S (mkF m 34 #[rv a, iv nd] [(.int 2), (.ref ha)]) st30 ?_
  refine own_S (mkF m 35 #[rv a, iv nd] [(.int nd), (.int 2), (.ref ha)]) (fun _ k => XS.iloadN X30.here hx rfl (hb hby d6_34) rfl k) ?_
  obtain ⟨T31, h31, X31, e31, W31, AR31, st31⟩ := own_stI (j := (2 : Int32)) X30 hx hZ e30 F24 (by decide) hH (g := (mkF m 35 #[rv a, iv nd] [(.int nd), (.int 2), (.ref ha)])) rfl rfl (hb hby d6_35)
  refine own_S (mkF m 36 #[rv a, iv nd] []) st31 ?_
  have F32 := F16.wr W31
  have F33 := F17.other W31 (Or.inl NE_a_ha)
  have F34 := F18.other W31 (Or.inl NE_a_ha)
  have F35 := F19.other W31 (Or.inl NE_a_ha)
  have F36 := F20.other W31 (Or.inl NE_a_ha)
  have F37 := F21.other W31 (Or.inl NE_a_ha)
  have F38 := F22.other W31 (Or.inl NE_a_ha)
  have F39 := F23.other W31 NE_da_ha
  have F40 := F25.other W31 (Ne.symm NE_ha_pa)
  have F41 := F26.other W31 (Ne.symm NE_ha_oa)
  have F42 : own_Ar Z h31 ha kh .int (H.set 2 (.int nd)) := AR31
  have N31 := Fr.snoc X31 N15 G_ha
  have Z31 : n0 ≤ h31.size := by rw [Wr.size W31]; exact Z15
  have K31 : Keep h0 h31 [a, ha, pa, oa] := K15.wr W31 (Or.inl (List.mem_of_getElem? (i := 1) rfl))
  refine own_S (mkF m 37 #[rv a, iv nd] [(.ref a)]) (fun _ k => XS.aloadN X31.here hx rfl (hb hby d6_36) rfl rfl k) ?_
  obtain ⟨T43, X43, e43, st43⟩ := getF X31 hx hZ hown (host := "") (Or.inl (own_g hw (i := 15) rfl)) Via.refl e31 F35 (g := (mkF m 37 #[rv a, iv nd] [(.ref a)])) rfl rfl (hb hby d6_37)
  refine own_S (mkF m 40 #[rv a, iv nd] [(.ref pa)]) st43 ?_
  refine own_S (mkF m 41 #[rv a, iv nd] [(.int nd), (.ref pa)]) (fun _ k => XS.iloadN X43.here hx rfl (hb hby d6_40) rfl k) ?_
  refine own_S (mkF m 42 #[rv a, iv nd] [(.ref a), (.int nd), (.ref pa)]) (fun _ k => XS.aloadN X43.here hx rfl (hb hby d6_41) rfl rfl k) ?_
  refine own_S (mkF m 43 #[rv a, iv nd] [(.ref a), (.ref a), (.int nd), (.ref pa)]) (fun _ k => XS.dup X43.here hx rfl (hb hby d6_42) rfl rfl k) ?_
  obtain ⟨T44, X44, e44, st44⟩ := getF X43 hx hZ hown (host := "") (Or.inl (own_g hw (i := 28) rfl)) Via.refl e43 F37 (g := (mkF m 43 #[rv a, iv nd] [(.ref a), (.ref a), (.int nd), (.ref pa)])) rfl rfl (hb hby d6_43)
  refine own_S (mkF m 46 #[rv a, iv nd] [(.int 2), (.ref a), (.int nd), (.ref pa)]) st44 ?_
  refine own_S (mkF m 47 #[rv a, iv nd] [(.int 2), (.ref a), (.int 2), (.int nd), (.ref pa)]) (fun _ k => XS.dupX1 X44.here hx rfl (hb hby d6_46) rfl rfl rfl k) ?_
  refine own_S (mkF m 48 #[rv a, iv nd] [(.int 1), (.int 2), (.ref a), (.int 2), (.int nd), (.ref pa)]) (fun _ k => XS.iconst X44.here hx rfl (hb hby d6_47) k) ?_
  refine own_S (mkF m 49 #[rv a, iv nd] [(.int 3), (.ref a), (.int 2), (.int nd), (.ref pa)]) (fun _ k => XS.iadd X44.here hx rfl (hb hby d6_48) rfl k) ?_
  obtain ⟨T45, h45, X45, e45, W45, st45⟩ := putF X44 hx hZ hown (host := "") (Or.inl (own_g hw (i := 28) rfl)) Via.refl e44 F37 F32 (Or.inl (own_g hw (i := 29) rfl)) (own_g hw (i := 2) rfl) (ty := .int) (by decide) rfl rfl (g := (mkF m 49 #[rv a, iv nd] [(.int 3), (.ref a), (.int 2), (.int nd), (.ref pa)])) rfl rfl (hb hby d6_49)
  refine own_S (mkF m 52 #[rv a, iv nd] [(.int 2), (.int nd), (.ref pa)]) st45 ?_
  have F46 := F32.wr W45
  have F47 := F33.other W45 (Or.inr (slot_ne (Or.inr (own_g hw (i := 11) rfl)) (Or.inl (own_g hw (i := 29) rfl)) (by decide) (t := (.array .long)) (t' := .int) (by decide) (by decide)))
  have F48 := F34.other W45 (Or.inr (slot_ne (Or.inr (own_g hw (i := 14) rfl)) (Or.inl (own_g hw (i := 29) rfl)) (by decide) (t := (.array .int)) (t' := .int) (by decide) (by decide)))
  have F49 := F35.other W45 (Or.inr (slot_ne (Or.inr (own_g hw (i := 16) rfl)) (Or.inl (own_g hw (i := 29) rfl)) (by decide) (t := (.array .int)) (t' := .int) (by decide) (by decide)))
  have F50 := F36.other W45 (Or.inr (slot_ne (Or.inr (own_g hw (i := 18) rfl)) (Or.inl (own_g hw (i := 29) rfl)) (by decide) (t := (.array .long)) (t' := .int) (by decide) (by decide)))
  have F51 := F37.same W45
  have F52 := F38.other W45 (Or.inr (slot_ne (Or.inl (own_g hw (i := 42) rfl)) (Or.inl (own_g hw (i := 29) rfl)) (by decide) (t := .long) (t' := .int) (by decide) (by decide)))
  have F53 := F39.other W45 (Ne.symm NE_a_da)
  have F54 := F40.other W45 (Ne.symm NE_a_pa)
  have F55 := F41.other W45 (Ne.symm NE_a_oa)
  have F56 := F42.other W45 (Ne.symm NE_a_ha)
  have N45 := Fr.snoc X45 N31 G_a
  have Z45 : n0 ≤ h45.size := by rw [Wr.size W45]; exact Z31
  have K45 : Keep h0 h45 [a, ha, pa, oa] := K31.wr W45 (Or.inl (List.mem_of_getElem? (i := 0) rfl))
  obtain ⟨T57, h57, X57, e57, W57, AR57, st57⟩ := own_stI (j := nd) X45 hx hZ e45 F54 hn0 hnP (g := (mkF m 52 #[rv a, iv nd] [(.int 2), (.int nd), (.ref pa)])) rfl rfl (hb hby d6_52)
  refine own_S (mkF m 53 #[rv a, iv nd] []) st57 ?_
  have F58 := F46.wr W57
  have F59 := F47.other W57 (Or.inl NE_a_pa)
  have F60 := F48.other W57 (Or.inl NE_a_pa)
  have F61 := F49.other W57 (Or.inl NE_a_pa)
  have F62 := F50.other W57 (Or.inl NE_a_pa)
  have F63 := F51.other W57 (Or.inl NE_a_pa)
  have F64 := F52.other W57 (Or.inl NE_a_pa)
  have F65 := F53.other W57 NE_da_pa
  have F66 := F55.other W57 (Ne.symm NE_pa_oa)
  have F67 := F56.other W57 NE_ha_pa
  have F68 : own_Ar Z h57 pa kp .int (P.set (nd).toNatClampNeg (.int (2 : Int32))) := AR57
  have N57 := Fr.snoc X57 N45 G_pa
  have Z57 : n0 ≤ h57.size := by rw [Wr.size W57]; exact Z45
  have K57 : Keep h0 h57 [a, ha, pa, oa] := K45.wr W57 (Or.inl (List.mem_of_getElem? (i := 2) rfl))
  refine own_S (mkF m 54 #[rv a, iv nd] [(.ref a)]) (fun _ k => XS.aloadN X57.here hx rfl (hb hby d6_53) rfl rfl k) ?_
  refine own_S (mkF m 55 #[rv a, iv nd] [(.ref a), (.ref a)]) (fun _ k => XS.aloadN X57.here hx rfl (hb hby d6_54) rfl rfl k) ?_
  obtain ⟨T69, X69, e69, st69⟩ := getF X57 hx hZ hown (host := "") (Or.inl (own_g hw (i := 15) rfl)) Via.refl e57 F61 (g := (mkF m 55 #[rv a, iv nd] [(.ref a), (.ref a)])) rfl rfl (hb hby d6_55)
  refine own_S (mkF m 58 #[rv a, iv nd] [(.ref pa), (.ref a)]) st69 ?_
  refine own_S (mkF m 59 #[rv a, iv nd] [(.int nd), (.ref pa), (.ref a)]) (fun _ k => XS.iloadN X69.here hx rfl (hb hby d6_58) rfl k) ?_
  refine own_S (mkF m 60 #[rv a, iv nd] [(.int 2), (.ref a)]) (fun _ k => own_ldI (j := nd) (v := (.int 2)) X69 hx hZ e69 F68 hn0 (own_set_at hnP) (g := (mkF m 59 #[rv a, iv nd] [(.int nd), (.ref pa), (.ref a)])) rfl rfl (hb hby d6_59) _ k) ?_
  obtain ⟨cq70, q70a, q70b⟩ := Exa.cell F58
  obtain ⟨_, _, ⟨T70, L70, k70, n70⟩, -, X70, ⟨Lc70, hQ70, l70, y70, z70⟩, st70⟩ := X69.privateBack hx (y := own_y5) hown (mvT hZ (own_g hw (i := 43) rfl)) (mvT hZ (own_g hw (i := 44) rfl)) (own_selP (mvT hZ (own_g hw (i := 2) rfl)) (Cond.privateMethod_at (mvP hZ (own_g hw (i := 45) rfl) (args := #[]))) (mvT hZ (own_g hw (i := 44) rfl)) (by decide)) (Cond.privateMethod_at (mvP hZ (own_g hw (i := 45) rfl) (args := #[]))) (mvT hZ (own_g hw (i := 46) rfl)) (by decide) (backOf (W := 0) (own_rmsu2n l Z a0 hw [] (a) (da) (ha) (pa) (oa) (kd) (kh) (kp) (ko) (D) ((H.set 2 (.int nd))) ((P.set (nd).toNatClampNeg (.int (2 : Int32)))) ((O.set (nd).toNatClampNeg (.long (of + (1 : Int64))))) (nd) (xx) (dn) (dx) ((of + (1 : Int64))) (ox) h57 n0 Z57 F58 F59 F60 F61 F62 F65 F67 F68 F66 G_ha G_pa NE_a_da NE_a_ha NE_a_pa NE_a_oa NE_da_ha NE_da_pa NE_da_oa NE_ha_pa NE_ha_oa NE_pa_oa (own_set_ne (by decide) h0v) (own_set_at hH) hn0 (by rw [List.length_set]; exact hnP) hx0 (by rw [List.length_set]; exact hxP) hdx hdy (own_set_at hnO) (own_set_ne hxn.symm hoy) hB) hZ (own_g hw (i := 46) rfl) (own_g hw (i := 3) rfl) (by decide) (by decide)) (g := (mkF m 60 #[rv a, iv nd] [(.int 2), (.ref a)])) rfl (by rw [hml]; rfl) (Steps.refl _) (a := a) (by rw [e69]; exact q70a) q70b (argsL := [(.int 2)]) (rest := []) (lenOf own_pd__I_V rfl) rfl (by show 2 * 0 + _ ≤ _; exact Nat.le_of_eq rfl) (hb hby d6_60) (fun _ _ => ⟨rfl, e69, (by decide : 0 + 0 ≤ _), (by decide : 0 + 0 ≤ _)⟩)
  dsimp only [Pt.U, Pt.locs, Pt.cells, Pt.slots] at X70 l70 y70 z70 st70 hQ70
  subst l70 y70 z70
  obtain ⟨rfl, N70q, K70q, F71, F72⟩ := hQ70
  have N70 := Fr.app N57 N70q
  refine own_S (mkF m 63 #[rv a, iv nd] []) (fun _ k => st70.trans k) ?_
  have K70 : Keep h0 T70.heap [a, ha, pa, oa] := K57.trans K70q (allS (Or.inl (List.mem_of_getElem? (i := 1) rfl)) (allS (Or.inl (List.mem_of_getElem? (i := 2) rfl)) all0))
  have F73 := F58.keep K70q
  have F74 := F59.keep K70q (ninS NE_a_ha (ninS NE_a_pa nin0))
  have F75 := F60.keep K70q (ninS NE_a_ha (ninS NE_a_pa nin0))
  have F76 := F61.keep K70q (ninS NE_a_ha (ninS NE_a_pa nin0))
  have F77 := F62.keep K70q (ninS NE_a_ha (ninS NE_a_pa nin0))
  have F78 := F63.keep K70q (ninS NE_a_ha (ninS NE_a_pa nin0))
  have F79 := F64.keep K70q (ninS NE_a_ha (ninS NE_a_pa nin0))
  have F80 := F65.keep K70q (ninS NE_da_ha (ninS NE_da_pa nin0))
  have F81 := F66.keep K70q (ninS (Ne.symm NE_ha_oa) (ninS (Ne.symm NE_pa_oa) nin0))
  have Z70 : n0 ≤ T70.heap.size := Nat.le_trans Z57 K70q.1
  exact own_ret0 X70 hx hlk hret (hb hby d6_63) ⟨rfl, N70, K70, F73, F74, F75, F76, F77, F78, F79, F71, F72, F81⟩ (by decide) (by decide)
theorem d4_0 : decode prog_8_method_7_code 0 = .ok (.iconst 0, 1) := by decide +kernel
theorem d4_1 : decode prog_8_method_7_code 1 = .ok (.istore_n 1, 1) := by decide +kernel
theorem d4_2 : decode prog_8_method_7_code 2 = .ok (.iload_n 1, 1) := by decide +kernel
theorem d4_3 : decode prog_8_method_7_code 3 = .ok (.aload_n 0, 1) := by decide +kernel
theorem d4_4 : decode prog_8_method_7_code 4 = .ok (.getfield 29, 3) := by decide +kernel
theorem d4_7 : decode prog_8_method_7_code 7 = .ok (.if_icmp .ge 21, 3) := by decide +kernel
theorem d4_28 : decode prog_8_method_7_code 28 = .ok (.aload_n 0, 1) := by decide +kernel
theorem d4_29 : decode prog_8_method_7_code 29 = .ok (.iconst 0, 1) := by decide +kernel
theorem d4_30 : decode prog_8_method_7_code 30 = .ok (.putfield 29, 3) := by decide +kernel
theorem d4_33 : decode prog_8_method_7_code 33 = .ok (.return_, 1) := by decide +kernel
theorem own_pf_cl0 : plainFor own_y7 = true := by first | exact plainFor_of_name (show plainName "com/example/stickler/stickler/assignment/NodeQueue" = true by first | (simp [plainName, overriddenIn]; done) | decide +kernel) | decide +kernel
theorem own_ef_cl0 (m : MethodId) (y0 : Addr) : entryFrame m #[(.ref y0)] 2 = mkF m 0 #[rv y0, .unset] [] := by first | (simp [entryFrame, mkF, argsToLocals, Value.category]; done) | rfl
def own_Qcl0 (Z : State) (a : Addr) (da : Addr) (ha : Addr) (pa : Addr) (oa : Addr) (kd : ClassId) (kh : ClassId) (kp : ClassId) (ko : ClassId) (D : List Value) (H : List Value) (P : List Value) (O : List Value) (of : Int64) (h0 : Heap) (n0 : Nat) (v : Option Value) (h : Heap) (L : List Loc) : Prop := v = none ∧ Fr n0 L ∧ Keep h0 h [a, pa] ∧ Exa Z h a "com/example/stickler/stickler/assignment/NodeQueue" ∧ Fld Z h a "com/example/stickler/stickler/assignment/NodeQueue" "distance" "[J" (.ref da) ∧ Fld Z h a "com/example/stickler/stickler/assignment/NodeQueue" "heap" "[I" (.ref ha) ∧ Fld Z h a "com/example/stickler/stickler/assignment/NodeQueue" "place" "[I" (.ref pa) ∧ Fld Z h a "com/example/stickler/stickler/assignment/NodeQueue" "offered" "[J" (.ref oa) ∧ Fld Z h a "com/example/stickler/stickler/assignment/NodeQueue" "size" "I" (.int (0 : Int32)) ∧ Fld Z h a "com/example/stickler/stickler/assignment/NodeQueue" "offers" "J" (.long of) ∧ own_Ar Z h pa kp .int P
set_option maxRecDepth 65536 in
set_option maxHeartbeats 40000000 in
theorem own_rmcl0 (l : Launch) (Z : State) (a0 : Array Value) (hw : ∀ d ∈ tables_1, d.before a0 Z = true) (ws : List Jvm.Cond) (a : Addr) (da : Addr) (ha : Addr) (pa : Addr) (oa : Addr) (kd : ClassId) (kh : ClassId) (kp : ClassId) (ko : ClassId) (D : List Value) (H : List Value) (P : List Value) (O : List Value) (of : Int64) (h0 : Heap) (n0 : Nat) (Z0 : n0 ≤ h0.size) (P0 : Exa Z h0 a "com/example/stickler/stickler/assignment/NodeQueue") (P1 : Fld Z h0 a "com/example/stickler/stickler/assignment/NodeQueue" "distance" "[J" (.ref da)) (P2 : Fld Z h0 a "com/example/stickler/stickler/assignment/NodeQueue" "heap" "[I" (.ref ha)) (P3 : Fld Z h0 a "com/example/stickler/stickler/assignment/NodeQueue" "place" "[I" (.ref pa)) (P4 : Fld Z h0 a "com/example/stickler/stickler/assignment/NodeQueue" "offered" "[J" (.ref oa)) (P5 : Fld Z h0 a "com/example/stickler/stickler/assignment/NodeQueue" "size" "I" (.int (0 : Int32))) (P6 : Fld Z h0 a "com/example/stickler/stickler/assignment/NodeQueue" "offers" "J" (.long of)) (P7 : own_Ar Z h0 da kd .long D) (P8 : own_Ar Z h0 ha kh .int H) (P9 : own_Ar Z h0 pa kp .int P) (P10 : own_Ar Z h0 oa ko .long O) (G_a : n0 ≤ a) (G_pa : n0 ≤ pa) (NE_a_da : a ≠ da) (NE_a_ha : a ≠ ha) (NE_a_pa : a ≠ pa) (NE_a_oa : a ≠ oa) (NE_da_ha : da ≠ ha) (NE_da_pa : da ≠ pa) (NE_da_oa : da ≠ oa) (NE_ha_pa : ha ≠ pa) (NE_ha_oa : ha ≠ oa) (NE_pa_oa : pa ≠ oa) :
    MetFree l own_y7 (head1 (Jvm.Cond.code own_y7 prog_8_method_7_code 2 none :: ws) ({ frames := 0, cells := 0, slots := 0, locals := 0 } : Room)) (fun az Uz => az = #[(.ref a)] ∧ Z.Warmed39 Uz.vm ∧ Uz.heap = h0) (fun _ _ _ _ _ => True) (fun _ U o U' => ∃ v L, o = .returned v ∧ own_Qcl0 Z a da ha pa oa kd kh kp ko D H P O of h0 n0 v U'.heap L ∧ FrameEnd U o U' L ({ frames := 0, cells := 0, slots := 0, locals := 0 } : Room).cells ({ frames := 0, cells := 0, slots := 0, locals := 0 } : Room).slots) := by
  refine MetFree.of_bodySF own_pf_cl0 hisR ?_
  intro p e s m args below meth c s₁ Bd hml0 hP hK
  obtain ⟨rfl, hZ, hh⟩ := hP
  have hx := Bd.exec
  have hby := Bd.bytes
  have hml : c.maxLocals = 2 := hml0
  have hown : s.vm.findClass "com/example/stickler/stickler/assignment/NodeQueue" = some m.cls := findClass_of_methodNamed Bd.named
  have hnm := (name_of_methodNamed Bd.named Bd.method).1
  have hlk : meth.locks = false := BodyLoose.notSynchronized Bd
  have hret := Bd.returns
  have X0 : Stand p l e ({ frames := 0, cells := 0, slots := 0, locals := 0 } : Room) s m #[(.ref a)] below meth c s₁ [] 0 0 := Stand.of_body Bd
  have e0 : s₁.heap = h0 := by rw [← hh, Bd.state]; rfl
  have N0 := Fr.nil n0
  show own_E p e below (own_K s (own_Qcl0 Z a da ha pa oa kd kh kp ko D H P O of h0 n0) ({ frames := 0, cells := 0, slots := 0, locals := 0 } : Room).cells ({ frames := 0, cells := 0, slots := 0, locals := 0 } : Room).slots) s₁ (entryFrame m #[(.ref a)] 2)
  refine own_S (mkF m 0 #[rv a, .unset] []) (fun _ k => castTop (own_ef_cl0 m (a)) k) ?_
  refine own_S (mkF m 1 #[rv a, .unset] [(.int 0)]) (fun _ k => XS.iconst X0.here hx rfl (hb hby d4_0) k) ?_
  refine own_S (mkF m 2 #[rv a, .val (.int 0)] []) (fun _ k => XS.istoreN X0.here hx rfl (hb hby d4_1) rfl (l' := #[rv a, .val (.int 0)]) rfl k) ?_
  refine own_S (mkF m 3 #[rv a, .val (.int 0)] [(.int 0)]) (fun _ k => XS.iloadN X0.here hx rfl (hb hby d4_2) rfl k) ?_
  refine own_S (mkF m 4 #[rv a, .val (.int 0)] [(.ref a), (.int 0)]) (fun _ k => XS.aloadN X0.here hx rfl (hb hby d4_3) rfl rfl k) ?_
  obtain ⟨T1, X1, e1, st1⟩ := getF X0 hx hZ hown (host := "") (Or.inl (own_g hw (i := 28) rfl)) Via.refl e0 P5 (g := (mkF m 4 #[rv a, .val (.int 0)] [(.ref a), (.int 0)])) rfl rfl (hb hby d4_4)
  refine own_S (mkF m 7 #[rv a, .val (.int 0)] [(.int 0), (.int 0)]) st1 ?_
  have hc2 : ¬ ((0 : Int32) < (0 : Int32)) := by decide
  refine own_S (mkF m 28 #[rv a, .val (.int 0)] []) (fun _ k => XS.icmpYes X1.here hx rfl (pc0 := 7) (pc' := 28) rfl (hb hby d4_7) rfl (flt hc2).2.1 (by decide) (by decide) k) ?_
  refine own_S (mkF m 29 #[rv a, .val (.int 0)] [(.ref a)]) (fun _ k => XS.aloadN X1.here hx rfl (hb hby d4_28) rfl rfl k) ?_
  refine own_S (mkF m 30 #[rv a, .val (.int 0)] [(.int 0), (.ref a)]) (fun _ k => XS.iconst X1.here hx rfl (hb hby d4_29) k) ?_
  obtain ⟨T3, h3, X3, e3, W3, st3⟩ := putF X1 hx hZ hown (host := "") (Or.inl (own_g hw (i := 28) rfl)) Via.refl e1 P5 P0 (Or.inl (own_g hw (i := 29) rfl)) (own_g hw (i := 2) rfl) (ty := .int) (by decide) rfl rfl (g := (mkF m 30 #[rv a, .val (.int 0)] [(.int 0), (.ref a)])) rfl rfl (hb hby d4_30)
  refine own_S (mkF m 33 #[rv a, .val (.int 0)] []) st3 ?_
  have F4 := P0.wr W3
  have F5 := P1.other W3 (Or.inr (slot_ne (Or.inr (own_g hw (i := 11) rfl)) (Or.inl (own_g hw (i := 29) rfl)) (by decide) (t := (.array .long)) (t' := .int) (by decide) (by decide)))
  have F6 := P2.other W3 (Or.inr (slot_ne (Or.inr (own_g hw (i := 14) rfl)) (Or.inl (own_g hw (i := 29) rfl)) (by decide) (t := (.array .int)) (t' := .int) (by decide) (by decide)))
  have F7 := P3.other W3 (Or.inr (slot_ne (Or.inr (own_g hw (i := 16) rfl)) (Or.inl (own_g hw (i := 29) rfl)) (by decide) (t := (.array .int)) (t' := .int) (by decide) (by decide)))
  have F8 := P4.other W3 (Or.inr (slot_ne (Or.inr (own_g hw (i := 18) rfl)) (Or.inl (own_g hw (i := 29) rfl)) (by decide) (t := (.array .long)) (t' := .int) (by decide) (by decide)))
  have F9 := P5.same W3
  have F10 := P6.other W3 (Or.inr (slot_ne (Or.inl (own_g hw (i := 42) rfl)) (Or.inl (own_g hw (i := 29) rfl)) (by decide) (t := .long) (t' := .int) (by decide) (by decide)))
  have F11 := P7.other W3 (Ne.symm NE_a_da)
  have F12 := P8.other W3 (Ne.symm NE_a_ha)
  have F13 := P9.other W3 (Ne.symm NE_a_pa)
  have F14 := P10.other W3 (Ne.symm NE_a_oa)
  have N3 := Fr.snoc X3 N0 G_a
  have Z3 : n0 ≤ h3.size := by rw [Wr.size W3]; exact Z0
  have K3 : Keep h0 h3 [a, pa] := (Keep.refl _ _).wr W3 (Or.inl (List.mem_of_getElem? (i := 0) rfl))
  exact own_ret0 X3 hx hlk hret (hb hby d4_33) (by rw [e3]; exact ⟨rfl, N3, K3, F4, F5, F6, F7, F8, F9, F10, F13⟩) (by decide) (by decide)
theorem d4_10 : decode prog_8_method_7_code 10 = .ok (.aload_n 0, 1) := by decide +kernel
theorem d4_11 : decode prog_8_method_7_code 11 = .ok (.getfield 17, 3) := by decide +kernel
theorem d4_14 : decode prog_8_method_7_code 14 = .ok (.aload_n 0, 1) := by decide +kernel
theorem d4_15 : decode prog_8_method_7_code 15 = .ok (.getfield 13, 3) := by decide +kernel
theorem d4_18 : decode prog_8_method_7_code 18 = .ok (.iload_n 1, 1) := by decide +kernel
theorem d4_19 : decode prog_8_method_7_code 19 = .ok (.iaload, 1) := by decide +kernel
theorem d4_20 : decode prog_8_method_7_code 20 = .ok (.iconst (-1), 1) := by decide +kernel
theorem d4_21 : decode prog_8_method_7_code 21 = .ok (.iastore, 1) := by decide +kernel
theorem d4_22 : decode prog_8_method_7_code 22 = .ok (.iinc 1 1, 3) := by decide +kernel
theorem d4_25 : decode prog_8_method_7_code 25 = .ok (.goto (-23), 3) := by decide +kernel
theorem own_pf_cl1 : plainFor own_y7 = true := by first | exact plainFor_of_name (show plainName "com/example/stickler/stickler/assignment/NodeQueue" = true by first | (simp [plainName, overriddenIn]; done) | decide +kernel) | decide +kernel
theorem own_ef_cl1 (m : MethodId) (y0 : Addr) : entryFrame m #[(.ref y0)] 2 = mkF m 0 #[rv y0, .unset] [] := by first | (simp [entryFrame, mkF, argsToLocals, Value.category]; done) | rfl
def own_Qcl1 (Z : State) (a : Addr) (da : Addr) (ha : Addr) (pa : Addr) (oa : Addr) (kd : ClassId) (kh : ClassId) (kp : ClassId) (ko : ClassId) (D : List Value) (H : List Value) (P : List Value) (O : List Value) (of : Int64) (x0 : Int32) (h0 : Heap) (n0 : Nat) (v : Option Value) (h : Heap) (L : List Loc) : Prop := v = none ∧ Fr n0 L ∧ Keep h0 h [a, pa] ∧ Exa Z h a "com/example/stickler/stickler/assignment/NodeQueue" ∧ Fld Z h a "com/example/stickler/stickler/assignment/NodeQueue" "distance" "[J" (.ref da) ∧ Fld Z h a "com/example/stickler/stickler/assignment/NodeQueue" "heap" "[I" (.ref ha) ∧ Fld Z h a "com/example/stickler/stickler/assignment/NodeQueue" "place" "[I" (.ref pa) ∧ Fld Z h a "com/example/stickler/stickler/assignment/NodeQueue" "offered" "[J" (.ref oa) ∧ Fld Z h a "com/example/stickler/stickler/assignment/NodeQueue" "size" "I" (.int (0 : Int32)) ∧ Fld Z h a "com/example/stickler/stickler/assignment/NodeQueue" "offers" "J" (.long of) ∧ own_Ar Z h pa kp .int (P.set (x0).toNatClampNeg (.int (-1 : Int32)))
set_option maxRecDepth 65536 in
set_option maxHeartbeats 40000000 in
theorem own_rmcl1 (l : Launch) (Z : State) (a0 : Array Value) (hw : ∀ d ∈ tables_1, d.before a0 Z = true) (ws : List Jvm.Cond) (a : Addr) (da : Addr) (ha : Addr) (pa : Addr) (oa : Addr) (kd : ClassId) (kh : ClassId) (kp : ClassId) (ko : ClassId) (D : List Value) (H : List Value) (P : List Value) (O : List Value) (of : Int64) (x0 : Int32) (h0 : Heap) (n0 : Nat) (Z0 : n0 ≤ h0.size) (P0 : Exa Z h0 a "com/example/stickler/stickler/assignment/NodeQueue") (P1 : Fld Z h0 a "com/example/stickler/stickler/assignment/NodeQueue" "distance" "[J" (.ref da)) (P2 : Fld Z h0 a "com/example/stickler/stickler/assignment/NodeQueue" "heap" "[I" (.ref ha)) (P3 : Fld Z h0 a "com/example/stickler/stickler/assignment/NodeQueue" "place" "[I" (.ref pa)) (P4 : Fld Z h0 a "com/example/stickler/stickler/assignment/NodeQueue" "offered" "[J" (.ref oa)) (P5 : Fld Z h0 a "com/example/stickler/stickler/assignment/NodeQueue" "size" "I" (.int (1 : Int32))) (P6 : Fld Z h0 a "com/example/stickler/stickler/assignment/NodeQueue" "offers" "J" (.long of)) (P7 : own_Ar Z h0 da kd .long D) (P8 : own_Ar Z h0 ha kh .int H) (P9 : own_Ar Z h0 pa kp .int P) (P10 : own_Ar Z h0 oa ko .long O) (G_a : n0 ≤ a) (G_pa : n0 ≤ pa) (NE_a_da : a ≠ da) (NE_a_ha : a ≠ ha) (NE_a_pa : a ≠ pa) (NE_a_oa : a ≠ oa) (NE_da_ha : da ≠ ha) (NE_da_pa : da ≠ pa) (NE_da_oa : da ≠ oa) (NE_ha_pa : ha ≠ pa) (NE_ha_oa : ha ≠ oa) (NE_pa_oa : pa ≠ oa) (hv0 : H[0]? = some (.int x0)) (hz0 : ¬ x0 < (0 : Int32)) (hl0 : (x0).toNatClampNeg < P.length) :
    MetFree l own_y7 (head1 (Jvm.Cond.code own_y7 prog_8_method_7_code 2 none :: ws) ({ frames := 0, cells := 0, slots := 0, locals := 0 } : Room)) (fun az Uz => az = #[(.ref a)] ∧ Z.Warmed39 Uz.vm ∧ Uz.heap = h0) (fun _ _ _ _ _ => True) (fun _ U o U' => ∃ v L, o = .returned v ∧ own_Qcl1 Z a da ha pa oa kd kh kp ko D H P O of x0 h0 n0 v U'.heap L ∧ FrameEnd U o U' L ({ frames := 0, cells := 0, slots := 0, locals := 0 } : Room).cells ({ frames := 0, cells := 0, slots := 0, locals := 0 } : Room).slots) := by
  refine MetFree.of_bodySF own_pf_cl1 hisR ?_
  intro p e s m args below meth c s₁ Bd hml0 hP hK
  obtain ⟨rfl, hZ, hh⟩ := hP
  have hx := Bd.exec
  have hby := Bd.bytes
  have hml : c.maxLocals = 2 := hml0
  have hown : s.vm.findClass "com/example/stickler/stickler/assignment/NodeQueue" = some m.cls := findClass_of_methodNamed Bd.named
  have hnm := (name_of_methodNamed Bd.named Bd.method).1
  have hlk : meth.locks = false := BodyLoose.notSynchronized Bd
  have hret := Bd.returns
  have X0 : Stand p l e ({ frames := 0, cells := 0, slots := 0, locals := 0 } : Room) s m #[(.ref a)] below meth c s₁ [] 0 0 := Stand.of_body Bd
  have e0 : s₁.heap = h0 := by rw [← hh, Bd.state]; rfl
  have N0 := Fr.nil n0
  show own_E p e below (own_K s (own_Qcl1 Z a da ha pa oa kd kh kp ko D H P O of x0 h0 n0) ({ frames := 0, cells := 0, slots := 0, locals := 0 } : Room).cells ({ frames := 0, cells := 0, slots := 0, locals := 0 } : Room).slots) s₁ (entryFrame m #[(.ref a)] 2)
  refine own_S (mkF m 0 #[rv a, .unset] []) (fun _ k => castTop (own_ef_cl1 m (a)) k) ?_
  refine own_S (mkF m 1 #[rv a, .unset] [(.int 0)]) (fun _ k => XS.iconst X0.here hx rfl (hb hby d4_0) k) ?_
  refine own_S (mkF m 2 #[rv a, .val (.int 0)] []) (fun _ k => XS.istoreN X0.here hx rfl (hb hby d4_1) rfl (l' := #[rv a, .val (.int 0)]) rfl k) ?_
  refine own_S (mkF m 3 #[rv a, .val (.int 0)] [(.int 0)]) (fun _ k => XS.iloadN X0.here hx rfl (hb hby d4_2) rfl k) ?_
  refine own_S (mkF m 4 #[rv a, .val (.int 0)] [(.ref a), (.int 0)]) (fun _ k => XS.aloadN X0.here hx rfl (hb hby d4_3) rfl rfl k) ?_
  obtain ⟨T1, X1, e1, st1⟩ := getF X0 hx hZ hown (host := "") (Or.inl (own_g hw (i := 28) rfl)) Via.refl e0 P5 (g := (mkF m 4 #[rv a, .val (.int 0)] [(.ref a), (.int 0)])) rfl rfl (hb hby d4_4)
  refine own_S (mkF m 7 #[rv a, .val (.int 0)] [(.int 1), (.int 0)]) st1 ?_
  have hc2 : (0 : Int32) < (1 : Int32) := by decide
  refine own_S (mkF m 10 #[rv a, .val (.int 0)] []) (fun _ k => XS.icmpNo X1.here hx rfl (hb hby d4_7) rfl (tlt hc2).2.1 k) ?_
  refine own_S (mkF m 11 #[rv a, .val (.int 0)] [(.ref a)]) (fun _ k => XS.aloadN X1.here hx rfl (hb hby d4_10) rfl rfl k) ?_
  obtain ⟨T3, X3, e3, st3⟩ := getF X1 hx hZ hown (host := "") (Or.inl (own_g hw (i := 15) rfl)) Via.refl e1 P3 (g := (mkF m 11 #[rv a, .val (.int 0)] [(.ref a)])) rfl rfl (hb hby d4_11)
  refine own_S (mkF m 14 #[rv a, .val (.int 0)] [(.ref pa)]) st3 ?_
  refine own_S (mkF m 15 #[rv a, .val (.int 0)] [(.ref a), (.ref pa)]) (fun _ k => XS.aloadN X3.here hx rfl (hb hby d4_14) rfl rfl k) ?_
  obtain ⟨T4, X4, e4, st4⟩ := getF X3 hx hZ hown (host := "") (Or.inl (own_g hw (i := 13) rfl)) Via.refl e3 P2 (g := (mkF m 15 #[rv a, .val (.int 0)] [(.ref a), (.ref pa)])) rfl rfl (hb hby d4_15)
  refine own_S (mkF m 18 #[rv a, .val (.int 0)] [(.ref ha), (.ref pa)]) st4 ?_
  refine own_S (mkF m 19 #[rv a, .val (.int 0)] [(.int 0), (.ref ha), (.ref pa)]) (fun _ k => XS.iloadN X4.here hx rfl (hb hby d4_18) rfl k) ?_
  refine own_S (mkF m 20 #[rv a, .val (.int 0)] [(.int x0), (.ref pa)]) (fun _ k => own_ldI (j := (0 : Int32)) (v := (.int x0)) X4 hx hZ e4 P8 (by decide) hv0 (g := (mkF m 19 #[rv a, .val (.int 0)] [(.int 0), (.ref ha), (.ref pa)])) rfl rfl (hb hby d4_19) _ k) ?_
  refine own_S (mkF m 21 #[rv a, .val (.int 0)] [(.int (-1)), (.int x0), (.ref pa)]) (fun _ k => XS.iconst X4.here hx rfl (hb hby d4_20) k) ?_
  obtain ⟨T5, h5, X5, e5, W5, AR5, st5⟩ := own_stI (j := x0) X4 hx hZ e4 P9 hz0 (by first | exact hl0 | (simp only [List.length_set]; exact hl0)) (g := (mkF m 21 #[rv a, .val (.int 0)] [(.int (-1)), (.int x0), (.ref pa)])) rfl rfl (hb hby d4_21)
  refine own_S (mkF m 22 #[rv a, .val (.int 0)] []) st5 ?_
  have F6 := P0.wr W5
  have F7 := P1.other W5 (Or.inl NE_a_pa)
  have F8 := P2.other W5 (Or.inl NE_a_pa)
  have F9 := P3.other W5 (Or.inl NE_a_pa)
  have F10 := P4.other W5 (Or.inl NE_a_pa)
  have F11 := P5.other W5 (Or.inl NE_a_pa)
  have F12 := P6.other W5 (Or.inl NE_a_pa)
  have F13 := P7.other W5 NE_da_pa
  have F14 := P8.other W5 NE_ha_pa
  have F15 := P10.other W5 (Ne.symm NE_pa_oa)
  have F16 : own_Ar Z h5 pa kp .int (P.set (x0).toNatClampNeg (.int (-1))) := AR5
  have N5 := Fr.snoc X5 N0 G_pa
  have Z5 : n0 ≤ h5.size := by rw [Wr.size W5]; exact Z0
  have K5 : Keep h0 h5 [a, pa] := (Keep.refl _ _).wr W5 (Or.inl (List.mem_of_getElem? (i := 1) rfl))
  refine own_S (mkF m 25 #[rv a, .val (.int 1)] []) (fun _ k => XS.iinc X5.here hx rfl (hb hby d4_22) rfl (l' := #[rv a, .val (.int 1)]) rfl k) ?_
  refine own_S (mkF m 2 #[rv a, .val (.int 1)] []) (fun _ k => XS.goto X5.here hx rfl (pc0 := 25) (pc' := 2) rfl (hb hby d4_25) (by decide) (by decide) k) ?_
  refine own_S (mkF m 3 #[rv a, .val (.int 1)] [(.int 1)]) (fun _ k => XS.iloadN X5.here hx rfl (hb hby d4_2) rfl k) ?_
  refine own_S (mkF m 4 #[rv a, .val (.int 1)] [(.ref a), (.int 1)]) (fun _ k => XS.aloadN X5.here hx rfl (hb hby d4_3) rfl rfl k) ?_
  obtain ⟨T17, X17, e17, st17⟩ := getF X5 hx hZ hown (host := "") (Or.inl (own_g hw (i := 28) rfl)) Via.refl e5 F11 (g := (mkF m 4 #[rv a, .val (.int 1)] [(.ref a), (.int 1)])) rfl rfl (hb hby d4_4)
  refine own_S (mkF m 7 #[rv a, .val (.int 1)] [(.int 1), (.int 1)]) st17 ?_
  have hc18 : ¬ ((1 : Int32) < (1 : Int32)) := by decide
  refine own_S (mkF m 28 #[rv a, .val (.int 1)] []) (fun _ k => XS.icmpYes X17.here hx rfl (pc0 := 7) (pc' := 28) rfl (hb hby d4_7) rfl (flt hc18).2.1 (by decide) (by decide) k) ?_
  refine own_S (mkF m 29 #[rv a, .val (.int 1)] [(.ref a)]) (fun _ k => XS.aloadN X17.here hx rfl (hb hby d4_28) rfl rfl k) ?_
  refine own_S (mkF m 30 #[rv a, .val (.int 1)] [(.int 0), (.ref a)]) (fun _ k => XS.iconst X17.here hx rfl (hb hby d4_29) k) ?_
  obtain ⟨T19, h19, X19, e19, W19, st19⟩ := putF X17 hx hZ hown (host := "") (Or.inl (own_g hw (i := 28) rfl)) Via.refl e17 F11 F6 (Or.inl (own_g hw (i := 29) rfl)) (own_g hw (i := 2) rfl) (ty := .int) (by decide) rfl rfl (g := (mkF m 30 #[rv a, .val (.int 1)] [(.int 0), (.ref a)])) rfl rfl (hb hby d4_30)
  refine own_S (mkF m 33 #[rv a, .val (.int 1)] []) st19 ?_
  have F20 := F6.wr W19
  have F21 := F7.other W19 (Or.inr (slot_ne (Or.inr (own_g hw (i := 11) rfl)) (Or.inl (own_g hw (i := 29) rfl)) (by decide) (t := (.array .long)) (t' := .int) (by decide) (by decide)))
  have F22 := F8.other W19 (Or.inr (slot_ne (Or.inr (own_g hw (i := 14) rfl)) (Or.inl (own_g hw (i := 29) rfl)) (by decide) (t := (.array .int)) (t' := .int) (by decide) (by decide)))
  have F23 := F9.other W19 (Or.inr (slot_ne (Or.inr (own_g hw (i := 16) rfl)) (Or.inl (own_g hw (i := 29) rfl)) (by decide) (t := (.array .int)) (t' := .int) (by decide) (by decide)))
  have F24 := F10.other W19 (Or.inr (slot_ne (Or.inr (own_g hw (i := 18) rfl)) (Or.inl (own_g hw (i := 29) rfl)) (by decide) (t := (.array .long)) (t' := .int) (by decide) (by decide)))
  have F25 := F11.same W19
  have F26 := F12.other W19 (Or.inr (slot_ne (Or.inl (own_g hw (i := 42) rfl)) (Or.inl (own_g hw (i := 29) rfl)) (by decide) (t := .long) (t' := .int) (by decide) (by decide)))
  have F27 := F13.other W19 (Ne.symm NE_a_da)
  have F28 := F14.other W19 (Ne.symm NE_a_ha)
  have F29 := F15.other W19 (Ne.symm NE_a_oa)
  have F30 := F16.other W19 (Ne.symm NE_a_pa)
  have N19 := Fr.snoc X19 N5 G_a
  have Z19 : n0 ≤ h19.size := by rw [Wr.size W19]; exact Z5
  have K19 : Keep h0 h19 [a, pa] := K5.wr W19 (Or.inl (List.mem_of_getElem? (i := 0) rfl))
  exact own_ret0 X19 hx hlk hret (hb hby d4_33) (by rw [e19]; exact ⟨rfl, N19, K19, F20, F21, F22, F23, F24, F25, F26, F30⟩) (by decide) (by decide)
theorem own_pf_cl2 : plainFor own_y7 = true := by first | exact plainFor_of_name (show plainName "com/example/stickler/stickler/assignment/NodeQueue" = true by first | (simp [plainName, overriddenIn]; done) | decide +kernel) | decide +kernel
theorem own_ef_cl2 (m : MethodId) (y0 : Addr) : entryFrame m #[(.ref y0)] 2 = mkF m 0 #[rv y0, .unset] [] := by first | (simp [entryFrame, mkF, argsToLocals, Value.category]; done) | rfl
def own_Qcl2 (Z : State) (a : Addr) (da : Addr) (ha : Addr) (pa : Addr) (oa : Addr) (kd : ClassId) (kh : ClassId) (kp : ClassId) (ko : ClassId) (D : List Value) (H : List Value) (P : List Value) (O : List Value) (of : Int64) (x0 : Int32) (x1 : Int32) (h0 : Heap) (n0 : Nat) (v : Option Value) (h : Heap) (L : List Loc) : Prop := v = none ∧ Fr n0 L ∧ Keep h0 h [a, pa] ∧ Exa Z h a "com/example/stickler/stickler/assignment/NodeQueue" ∧ Fld Z h a "com/example/stickler/stickler/assignment/NodeQueue" "distance" "[J" (.ref da) ∧ Fld Z h a "com/example/stickler/stickler/assignment/NodeQueue" "heap" "[I" (.ref ha) ∧ Fld Z h a "com/example/stickler/stickler/assignment/NodeQueue" "place" "[I" (.ref pa) ∧ Fld Z h a "com/example/stickler/stickler/assignment/NodeQueue" "offered" "[J" (.ref oa) ∧ Fld Z h a "com/example/stickler/stickler/assignment/NodeQueue" "size" "I" (.int (0 : Int32)) ∧ Fld Z h a "com/example/stickler/stickler/assignment/NodeQueue" "offers" "J" (.long of) ∧ own_Ar Z h pa kp .int ((P.set (x0).toNatClampNeg (.int (-1 : Int32))).set (x1).toNatClampNeg (.int (-1 : Int32)))
set_option maxRecDepth 65536 in
set_option maxHeartbeats 40000000 in
theorem own_rmcl2 (l : Launch) (Z : State) (a0 : Array Value) (hw : ∀ d ∈ tables_1, d.before a0 Z = true) (ws : List Jvm.Cond) (a : Addr) (da : Addr) (ha : Addr) (pa : Addr) (oa : Addr) (kd : ClassId) (kh : ClassId) (kp : ClassId) (ko : ClassId) (D : List Value) (H : List Value) (P : List Value) (O : List Value) (of : Int64) (x0 : Int32) (x1 : Int32) (h0 : Heap) (n0 : Nat) (Z0 : n0 ≤ h0.size) (P0 : Exa Z h0 a "com/example/stickler/stickler/assignment/NodeQueue") (P1 : Fld Z h0 a "com/example/stickler/stickler/assignment/NodeQueue" "distance" "[J" (.ref da)) (P2 : Fld Z h0 a "com/example/stickler/stickler/assignment/NodeQueue" "heap" "[I" (.ref ha)) (P3 : Fld Z h0 a "com/example/stickler/stickler/assignment/NodeQueue" "place" "[I" (.ref pa)) (P4 : Fld Z h0 a "com/example/stickler/stickler/assignment/NodeQueue" "offered" "[J" (.ref oa)) (P5 : Fld Z h0 a "com/example/stickler/stickler/assignment/NodeQueue" "size" "I" (.int (2 : Int32))) (P6 : Fld Z h0 a "com/example/stickler/stickler/assignment/NodeQueue" "offers" "J" (.long of)) (P7 : own_Ar Z h0 da kd .long D) (P8 : own_Ar Z h0 ha kh .int H) (P9 : own_Ar Z h0 pa kp .int P) (P10 : own_Ar Z h0 oa ko .long O) (G_a : n0 ≤ a) (G_pa : n0 ≤ pa) (NE_a_da : a ≠ da) (NE_a_ha : a ≠ ha) (NE_a_pa : a ≠ pa) (NE_a_oa : a ≠ oa) (NE_da_ha : da ≠ ha) (NE_da_pa : da ≠ pa) (NE_da_oa : da ≠ oa) (NE_ha_pa : ha ≠ pa) (NE_ha_oa : ha ≠ oa) (NE_pa_oa : pa ≠ oa) (hv0 : H[0]? = some (.int x0)) (hz0 : ¬ x0 < (0 : Int32)) (hl0 : (x0).toNatClampNeg < P.length) (hv1 : H[1]? = some (.int x1)) (hz1 : ¬ x1 < (0 : Int32)) (hl1 : (x1).toNatClampNeg < P.length) :
    MetFree l own_y7 (head1 (Jvm.Cond.code own_y7 prog_8_method_7_code 2 none :: ws) ({ frames := 0, cells := 0, slots := 0, locals := 0 } : Room)) (fun az Uz => az = #[(.ref a)] ∧ Z.Warmed39 Uz.vm ∧ Uz.heap = h0) (fun _ _ _ _ _ => True) (fun _ U o U' => ∃ v L, o = .returned v ∧ own_Qcl2 Z a da ha pa oa kd kh kp ko D H P O of x0 x1 h0 n0 v U'.heap L ∧ FrameEnd U o U' L ({ frames := 0, cells := 0, slots := 0, locals := 0 } : Room).cells ({ frames := 0, cells := 0, slots := 0, locals := 0 } : Room).slots) := by
  refine MetFree.of_bodySF own_pf_cl2 hisR ?_
  intro p e s m args below meth c s₁ Bd hml0 hP hK
  obtain ⟨rfl, hZ, hh⟩ := hP
  have hx := Bd.exec
  have hby := Bd.bytes
  have hml : c.maxLocals = 2 := hml0
  have hown : s.vm.findClass "com/example/stickler/stickler/assignment/NodeQueue" = some m.cls := findClass_of_methodNamed Bd.named
  have hnm := (name_of_methodNamed Bd.named Bd.method).1
  have hlk : meth.locks = false := BodyLoose.notSynchronized Bd
  have hret := Bd.returns
  have X0 : Stand p l e ({ frames := 0, cells := 0, slots := 0, locals := 0 } : Room) s m #[(.ref a)] below meth c s₁ [] 0 0 := Stand.of_body Bd
  have e0 : s₁.heap = h0 := by rw [← hh, Bd.state]; rfl
  have N0 := Fr.nil n0
  show own_E p e below (own_K s (own_Qcl2 Z a da ha pa oa kd kh kp ko D H P O of x0 x1 h0 n0) ({ frames := 0, cells := 0, slots := 0, locals := 0 } : Room).cells ({ frames := 0, cells := 0, slots := 0, locals := 0 } : Room).slots) s₁ (entryFrame m #[(.ref a)] 2)
  refine own_S (mkF m 0 #[rv a, .unset] []) (fun _ k => castTop (own_ef_cl2 m (a)) k) ?_
  refine own_S (mkF m 1 #[rv a, .unset] [(.int 0)]) (fun _ k => XS.iconst X0.here hx rfl (hb hby d4_0) k) ?_
  refine own_S (mkF m 2 #[rv a, .val (.int 0)] []) (fun _ k => XS.istoreN X0.here hx rfl (hb hby d4_1) rfl (l' := #[rv a, .val (.int 0)]) rfl k) ?_
  refine own_S (mkF m 3 #[rv a, .val (.int 0)] [(.int 0)]) (fun _ k => XS.iloadN X0.here hx rfl (hb hby d4_2) rfl k) ?_
  refine own_S (mkF m 4 #[rv a, .val (.int 0)] [(.ref a), (.int 0)]) (fun _ k => XS.aloadN X0.here hx rfl (hb hby d4_3) rfl rfl k) ?_
  obtain ⟨T1, X1, e1, st1⟩ := getF X0 hx hZ hown (host := "") (Or.inl (own_g hw (i := 28) rfl)) Via.refl e0 P5 (g := (mkF m 4 #[rv a, .val (.int 0)] [(.ref a), (.int 0)])) rfl rfl (hb hby d4_4)
  refine own_S (mkF m 7 #[rv a, .val (.int 0)] [(.int 2), (.int 0)]) st1 ?_
  have hc2 : (0 : Int32) < (2 : Int32) := by decide
  refine own_S (mkF m 10 #[rv a, .val (.int 0)] []) (fun _ k => XS.icmpNo X1.here hx rfl (hb hby d4_7) rfl (tlt hc2).2.1 k) ?_
  refine own_S (mkF m 11 #[rv a, .val (.int 0)] [(.ref a)]) (fun _ k => XS.aloadN X1.here hx rfl (hb hby d4_10) rfl rfl k) ?_
  obtain ⟨T3, X3, e3, st3⟩ := getF X1 hx hZ hown (host := "") (Or.inl (own_g hw (i := 15) rfl)) Via.refl e1 P3 (g := (mkF m 11 #[rv a, .val (.int 0)] [(.ref a)])) rfl rfl (hb hby d4_11)
  refine own_S (mkF m 14 #[rv a, .val (.int 0)] [(.ref pa)]) st3 ?_
  refine own_S (mkF m 15 #[rv a, .val (.int 0)] [(.ref a), (.ref pa)]) (fun _ k => XS.aloadN X3.here hx rfl (hb hby d4_14) rfl rfl k) ?_
  obtain ⟨T4, X4, e4, st4⟩ := getF X3 hx hZ hown (host := "") (Or.inl (own_g hw (i := 13) rfl)) Via.refl e3 P2 (g := (mkF m 15 #[rv a, .val (.int 0)] [(.ref a), (.ref pa)])) rfl rfl (hb hby d4_15)
  refine own_S (mkF m 18 #[rv a, .val (.int 0)] [(.ref ha), (.ref pa)]) st4 ?_
  refine own_S (mkF m 19 #[rv a, .val (.int 0)] [(.int 0), (.ref ha), (.ref pa)]) (fun _ k => XS.iloadN X4.here hx rfl (hb hby d4_18) rfl k) ?_
  refine own_S (mkF m 20 #[rv a, .val (.int 0)] [(.int x0), (.ref pa)]) (fun _ k => own_ldI (j := (0 : Int32)) (v := (.int x0)) X4 hx hZ e4 P8 (by decide) hv0 (g := (mkF m 19 #[rv a, .val (.int 0)] [(.int 0), (.ref ha), (.ref pa)])) rfl rfl (hb hby d4_19) _ k) ?_
  refine own_S (mkF m 21 #[rv a, .val (.int 0)] [(.int (-1)), (.int x0), (.ref pa)]) (fun _ k => XS.iconst X4.here hx rfl (hb hby d4_20) k) ?_
  obtain ⟨T5, h5, X5, e5, W5, AR5, st5⟩ := own_stI (j := x0) X4 hx hZ e4 P9 hz0 (by first | exact hl0 | (simp only [List.length_set]; exact hl0)) (g := (mkF m 21 #[rv a, .val (.int 0)] [(.int (-1)), (.int x0), (.ref pa)])) rfl rfl (hb hby d4_21)
  refine own_S (mkF m 22 #[rv a, .val (.int 0)] []) st5 ?_
  have F6 := P0.wr W5
  have F7 := P1.other W5 (Or.inl NE_a_pa)
  have F8 := P2.other W5 (Or.inl NE_a_pa)
  have F9 := P3.other W5 (Or.inl NE_a_pa)
  have F10 := P4.other W5 (Or.inl NE_a_pa)
  have F11 := P5.other W5 (Or.inl NE_a_pa)
  have F12 := P6.other W5 (Or.inl NE_a_pa)
  have F13 := P7.other W5 NE_da_pa
  have F14 := P8.other W5 NE_ha_pa
  have F15 := P10.other W5 (Ne.symm NE_pa_oa)
  have F16 : own_Ar Z h5 pa kp .int (P.set (x0).toNatClampNeg (.int (-1))) := AR5
  have N5 := Fr.snoc X5 N0 G_pa
  have Z5 : n0 ≤ h5.size := by rw [Wr.size W5]; exact Z0
  have K5 : Keep h0 h5 [a, pa] := (Keep.refl _ _).wr W5 (Or.inl (List.mem_of_getElem? (i := 1) rfl))
  refine own_S (mkF m 25 #[rv a, .val (.int 1)] []) (fun _ k => XS.iinc X5.here hx rfl (hb hby d4_22) rfl (l' := #[rv a, .val (.int 1)]) rfl k) ?_
  refine own_S (mkF m 2 #[rv a, .val (.int 1)] []) (fun _ k => XS.goto X5.here hx rfl (pc0 := 25) (pc' := 2) rfl (hb hby d4_25) (by decide) (by decide) k) ?_
  refine own_S (mkF m 3 #[rv a, .val (.int 1)] [(.int 1)]) (fun _ k => XS.iloadN X5.here hx rfl (hb hby d4_2) rfl k) ?_
  refine own_S (mkF m 4 #[rv a, .val (.int 1)] [(.ref a), (.int 1)]) (fun _ k => XS.aloadN X5.here hx rfl (hb hby d4_3) rfl rfl k) ?_
  obtain ⟨T17, X17, e17, st17⟩ := getF X5 hx hZ hown (host := "") (Or.inl (own_g hw (i := 28) rfl)) Via.refl e5 F11 (g := (mkF m 4 #[rv a, .val (.int 1)] [(.ref a), (.int 1)])) rfl rfl (hb hby d4_4)
  refine own_S (mkF m 7 #[rv a, .val (.int 1)] [(.int 2), (.int 1)]) st17 ?_
  have hc18 : (1 : Int32) < (2 : Int32) := by decide
  refine own_S (mkF m 10 #[rv a, .val (.int 1)] []) (fun _ k => XS.icmpNo X17.here hx rfl (hb hby d4_7) rfl (tlt hc18).2.1 k) ?_
  refine own_S (mkF m 11 #[rv a, .val (.int 1)] [(.ref a)]) (fun _ k => XS.aloadN X17.here hx rfl (hb hby d4_10) rfl rfl k) ?_
  obtain ⟨T19, X19, e19, st19⟩ := getF X17 hx hZ hown (host := "") (Or.inl (own_g hw (i := 15) rfl)) Via.refl e17 F9 (g := (mkF m 11 #[rv a, .val (.int 1)] [(.ref a)])) rfl rfl (hb hby d4_11)
  refine own_S (mkF m 14 #[rv a, .val (.int 1)] [(.ref pa)]) st19 ?_
  refine own_S (mkF m 15 #[rv a, .val (.int 1)] [(.ref a), (.ref pa)]) (fun _ k => XS.aloadN X19.here hx rfl (hb hby d4_14) rfl rfl k) ?_
  obtain ⟨T20, X20, e20, st20⟩ := getF X19 hx hZ hown (host := "") (Or.inl (own_g hw (i := 13) rfl)) Via.refl e19 F8 (g := (mkF m 15 #[rv a, .val (.int 1)] [(.ref a), (.ref pa)])) rfl rfl (hb hby d4_15)
  refine own_S (mkF m 18 #[rv a, .val (.int 1)] [(.ref ha), (.ref pa)]) st20 ?_
  refine own_S (mkF m 19 #[rv a, .val (.int 1)] [(.int 1), (.ref ha), (.ref pa)]) (fun _ k => XS.iloadN X20.here hx rfl (hb hby d4_18) rfl k) ?_
  refine own_S (mkF m 20 #[rv a, .val (.int 1)] [(.int x1), (.ref pa)]) (fun _ k => own_ldI (j := (1 : Int32)) (v := (.int x1)) X20 hx hZ e20 F14 (by decide) hv1 (g := (mkF m 19 #[rv a, .val (.int 1)] [(.int 1), (.ref ha), (.ref pa)])) rfl rfl (hb hby d4_19) _ k) ?_
  refine own_S (mkF m 21 #[rv a, .val (.int 1)] [(.int (-1)), (.int x1), (.ref pa)]) (fun _ k => XS.iconst X20.here hx rfl (hb hby d4_20) k) ?_
  obtain ⟨T21, h21, X21, e21, W21, AR21, st21⟩ := own_stI (j := x1) X20 hx hZ e20 F16 hz1 (by first | exact hl1 | (simp only [List.length_set]; exact hl1)) (g := (mkF m 21 #[rv a, .val (.int 1)] [(.int (-1)), (.int x1), (.ref pa)])) rfl rfl (hb hby d4_21)
  refine own_S (mkF m 22 #[rv a, .val (.int 1)] []) st21 ?_
  have F22 := F6.wr W21
  have F23 := F7.other W21 (Or.inl NE_a_pa)
  have F24 := F8.other W21 (Or.inl NE_a_pa)
  have F25 := F9.other W21 (Or.inl NE_a_pa)
  have F26 := F10.other W21 (Or.inl NE_a_pa)
  have F27 := F11.other W21 (Or.inl NE_a_pa)
  have F28 := F12.other W21 (Or.inl NE_a_pa)
  have F29 := F13.other W21 NE_da_pa
  have F30 := F14.other W21 NE_ha_pa
  have F31 := F15.other W21 (Ne.symm NE_pa_oa)
  have F32 : own_Ar Z h21 pa kp .int ((P.set (x0).toNatClampNeg (.int (-1))).set (x1).toNatClampNeg (.int (-1))) := AR21
  have N21 := Fr.snoc X21 N5 G_pa
  have Z21 : n0 ≤ h21.size := by rw [Wr.size W21]; exact Z5
  have K21 : Keep h0 h21 [a, pa] := K5.wr W21 (Or.inl (List.mem_of_getElem? (i := 1) rfl))
  refine own_S (mkF m 25 #[rv a, .val (.int 2)] []) (fun _ k => XS.iinc X21.here hx rfl (hb hby d4_22) rfl (l' := #[rv a, .val (.int 2)]) rfl k) ?_
  refine own_S (mkF m 2 #[rv a, .val (.int 2)] []) (fun _ k => XS.goto X21.here hx rfl (pc0 := 25) (pc' := 2) rfl (hb hby d4_25) (by decide) (by decide) k) ?_
  refine own_S (mkF m 3 #[rv a, .val (.int 2)] [(.int 2)]) (fun _ k => XS.iloadN X21.here hx rfl (hb hby d4_2) rfl k) ?_
  refine own_S (mkF m 4 #[rv a, .val (.int 2)] [(.ref a), (.int 2)]) (fun _ k => XS.aloadN X21.here hx rfl (hb hby d4_3) rfl rfl k) ?_
  obtain ⟨T33, X33, e33, st33⟩ := getF X21 hx hZ hown (host := "") (Or.inl (own_g hw (i := 28) rfl)) Via.refl e21 F27 (g := (mkF m 4 #[rv a, .val (.int 2)] [(.ref a), (.int 2)])) rfl rfl (hb hby d4_4)
  refine own_S (mkF m 7 #[rv a, .val (.int 2)] [(.int 2), (.int 2)]) st33 ?_
  have hc34 : ¬ ((2 : Int32) < (2 : Int32)) := by decide
  refine own_S (mkF m 28 #[rv a, .val (.int 2)] []) (fun _ k => XS.icmpYes X33.here hx rfl (pc0 := 7) (pc' := 28) rfl (hb hby d4_7) rfl (flt hc34).2.1 (by decide) (by decide) k) ?_
  refine own_S (mkF m 29 #[rv a, .val (.int 2)] [(.ref a)]) (fun _ k => XS.aloadN X33.here hx rfl (hb hby d4_28) rfl rfl k) ?_
  refine own_S (mkF m 30 #[rv a, .val (.int 2)] [(.int 0), (.ref a)]) (fun _ k => XS.iconst X33.here hx rfl (hb hby d4_29) k) ?_
  obtain ⟨T35, h35, X35, e35, W35, st35⟩ := putF X33 hx hZ hown (host := "") (Or.inl (own_g hw (i := 28) rfl)) Via.refl e33 F27 F22 (Or.inl (own_g hw (i := 29) rfl)) (own_g hw (i := 2) rfl) (ty := .int) (by decide) rfl rfl (g := (mkF m 30 #[rv a, .val (.int 2)] [(.int 0), (.ref a)])) rfl rfl (hb hby d4_30)
  refine own_S (mkF m 33 #[rv a, .val (.int 2)] []) st35 ?_
  have F36 := F22.wr W35
  have F37 := F23.other W35 (Or.inr (slot_ne (Or.inr (own_g hw (i := 11) rfl)) (Or.inl (own_g hw (i := 29) rfl)) (by decide) (t := (.array .long)) (t' := .int) (by decide) (by decide)))
  have F38 := F24.other W35 (Or.inr (slot_ne (Or.inr (own_g hw (i := 14) rfl)) (Or.inl (own_g hw (i := 29) rfl)) (by decide) (t := (.array .int)) (t' := .int) (by decide) (by decide)))
  have F39 := F25.other W35 (Or.inr (slot_ne (Or.inr (own_g hw (i := 16) rfl)) (Or.inl (own_g hw (i := 29) rfl)) (by decide) (t := (.array .int)) (t' := .int) (by decide) (by decide)))
  have F40 := F26.other W35 (Or.inr (slot_ne (Or.inr (own_g hw (i := 18) rfl)) (Or.inl (own_g hw (i := 29) rfl)) (by decide) (t := (.array .long)) (t' := .int) (by decide) (by decide)))
  have F41 := F27.same W35
  have F42 := F28.other W35 (Or.inr (slot_ne (Or.inl (own_g hw (i := 42) rfl)) (Or.inl (own_g hw (i := 29) rfl)) (by decide) (t := .long) (t' := .int) (by decide) (by decide)))
  have F43 := F29.other W35 (Ne.symm NE_a_da)
  have F44 := F30.other W35 (Ne.symm NE_a_ha)
  have F45 := F31.other W35 (Ne.symm NE_a_oa)
  have F46 := F32.other W35 (Ne.symm NE_a_pa)
  have N35 := Fr.snoc X35 N21 G_a
  have Z35 : n0 ≤ h35.size := by rw [Wr.size W35]; exact Z21
  have K35 : Keep h0 h35 [a, pa] := K21.wr W35 (Or.inl (List.mem_of_getElem? (i := 0) rfl))
  exact own_ret0 X35 hx hlk hret (hb hby d4_33) (by rw [e35]; exact ⟨rfl, N35, K35, F36, F37, F38, F39, F40, F41, F42, F46⟩) (by decide) (by decide)
theorem own_pf_cl3 : plainFor own_y7 = true := by first | exact plainFor_of_name (show plainName "com/example/stickler/stickler/assignment/NodeQueue" = true by first | (simp [plainName, overriddenIn]; done) | decide +kernel) | decide +kernel
theorem own_ef_cl3 (m : MethodId) (y0 : Addr) : entryFrame m #[(.ref y0)] 2 = mkF m 0 #[rv y0, .unset] [] := by first | (simp [entryFrame, mkF, argsToLocals, Value.category]; done) | rfl
def own_Qcl3 (Z : State) (a : Addr) (da : Addr) (ha : Addr) (pa : Addr) (oa : Addr) (kd : ClassId) (kh : ClassId) (kp : ClassId) (ko : ClassId) (D : List Value) (H : List Value) (P : List Value) (O : List Value) (of : Int64) (x0 : Int32) (x1 : Int32) (x2 : Int32) (h0 : Heap) (n0 : Nat) (v : Option Value) (h : Heap) (L : List Loc) : Prop := v = none ∧ Fr n0 L ∧ Keep h0 h [a, pa] ∧ Exa Z h a "com/example/stickler/stickler/assignment/NodeQueue" ∧ Fld Z h a "com/example/stickler/stickler/assignment/NodeQueue" "distance" "[J" (.ref da) ∧ Fld Z h a "com/example/stickler/stickler/assignment/NodeQueue" "heap" "[I" (.ref ha) ∧ Fld Z h a "com/example/stickler/stickler/assignment/NodeQueue" "place" "[I" (.ref pa) ∧ Fld Z h a "com/example/stickler/stickler/assignment/NodeQueue" "offered" "[J" (.ref oa) ∧ Fld Z h a "com/example/stickler/stickler/assignment/NodeQueue" "size" "I" (.int (0 : Int32)) ∧ Fld Z h a "com/example/stickler/stickler/assignment/NodeQueue" "offers" "J" (.long of) ∧ own_Ar Z h pa kp .int (((P.set (x0).toNatClampNeg (.int (-1 : Int32))).set (x1).toNatClampNeg (.int (-1 : Int32))).set (x2).toNatClampNeg (.int (-1 : Int32)))
set_option maxRecDepth 65536 in
set_option maxHeartbeats 40000000 in
theorem own_rmcl3 (l : Launch) (Z : State) (a0 : Array Value) (hw : ∀ d ∈ tables_1, d.before a0 Z = true) (ws : List Jvm.Cond) (a : Addr) (da : Addr) (ha : Addr) (pa : Addr) (oa : Addr) (kd : ClassId) (kh : ClassId) (kp : ClassId) (ko : ClassId) (D : List Value) (H : List Value) (P : List Value) (O : List Value) (of : Int64) (x0 : Int32) (x1 : Int32) (x2 : Int32) (h0 : Heap) (n0 : Nat) (Z0 : n0 ≤ h0.size) (P0 : Exa Z h0 a "com/example/stickler/stickler/assignment/NodeQueue") (P1 : Fld Z h0 a "com/example/stickler/stickler/assignment/NodeQueue" "distance" "[J" (.ref da)) (P2 : Fld Z h0 a "com/example/stickler/stickler/assignment/NodeQueue" "heap" "[I" (.ref ha)) (P3 : Fld Z h0 a "com/example/stickler/stickler/assignment/NodeQueue" "place" "[I" (.ref pa)) (P4 : Fld Z h0 a "com/example/stickler/stickler/assignment/NodeQueue" "offered" "[J" (.ref oa)) (P5 : Fld Z h0 a "com/example/stickler/stickler/assignment/NodeQueue" "size" "I" (.int (3 : Int32))) (P6 : Fld Z h0 a "com/example/stickler/stickler/assignment/NodeQueue" "offers" "J" (.long of)) (P7 : own_Ar Z h0 da kd .long D) (P8 : own_Ar Z h0 ha kh .int H) (P9 : own_Ar Z h0 pa kp .int P) (P10 : own_Ar Z h0 oa ko .long O) (G_a : n0 ≤ a) (G_pa : n0 ≤ pa) (NE_a_da : a ≠ da) (NE_a_ha : a ≠ ha) (NE_a_pa : a ≠ pa) (NE_a_oa : a ≠ oa) (NE_da_ha : da ≠ ha) (NE_da_pa : da ≠ pa) (NE_da_oa : da ≠ oa) (NE_ha_pa : ha ≠ pa) (NE_ha_oa : ha ≠ oa) (NE_pa_oa : pa ≠ oa) (hv0 : H[0]? = some (.int x0)) (hz0 : ¬ x0 < (0 : Int32)) (hl0 : (x0).toNatClampNeg < P.length) (hv1 : H[1]? = some (.int x1)) (hz1 : ¬ x1 < (0 : Int32)) (hl1 : (x1).toNatClampNeg < P.length) (hv2 : H[2]? = some (.int x2)) (hz2 : ¬ x2 < (0 : Int32)) (hl2 : (x2).toNatClampNeg < P.length) :
    MetFree l own_y7 (head1 (Jvm.Cond.code own_y7 prog_8_method_7_code 2 none :: ws) ({ frames := 0, cells := 0, slots := 0, locals := 0 } : Room)) (fun az Uz => az = #[(.ref a)] ∧ Z.Warmed39 Uz.vm ∧ Uz.heap = h0) (fun _ _ _ _ _ => True) (fun _ U o U' => ∃ v L, o = .returned v ∧ own_Qcl3 Z a da ha pa oa kd kh kp ko D H P O of x0 x1 x2 h0 n0 v U'.heap L ∧ FrameEnd U o U' L ({ frames := 0, cells := 0, slots := 0, locals := 0 } : Room).cells ({ frames := 0, cells := 0, slots := 0, locals := 0 } : Room).slots) := by
  refine MetFree.of_bodySF own_pf_cl3 hisR ?_
  intro p e s m args below meth c s₁ Bd hml0 hP hK
  obtain ⟨rfl, hZ, hh⟩ := hP
  have hx := Bd.exec
  have hby := Bd.bytes
  have hml : c.maxLocals = 2 := hml0
  have hown : s.vm.findClass "com/example/stickler/stickler/assignment/NodeQueue" = some m.cls := findClass_of_methodNamed Bd.named
  have hnm := (name_of_methodNamed Bd.named Bd.method).1
  have hlk : meth.locks = false := BodyLoose.notSynchronized Bd
  have hret := Bd.returns
  have X0 : Stand p l e ({ frames := 0, cells := 0, slots := 0, locals := 0 } : Room) s m #[(.ref a)] below meth c s₁ [] 0 0 := Stand.of_body Bd
  have e0 : s₁.heap = h0 := by rw [← hh, Bd.state]; rfl
  have N0 := Fr.nil n0
  show own_E p e below (own_K s (own_Qcl3 Z a da ha pa oa kd kh kp ko D H P O of x0 x1 x2 h0 n0) ({ frames := 0, cells := 0, slots := 0, locals := 0 } : Room).cells ({ frames := 0, cells := 0, slots := 0, locals := 0 } : Room).slots) s₁ (entryFrame m #[(.ref a)] 2)
  refine own_S (mkF m 0 #[rv a, .unset] []) (fun _ k => castTop (own_ef_cl3 m (a)) k) ?_
  refine own_S (mkF m 1 #[rv a, .unset] [(.int 0)]) (fun _ k => XS.iconst X0.here hx rfl (hb hby d4_0) k) ?_
  refine own_S (mkF m 2 #[rv a, .val (.int 0)] []) (fun _ k => XS.istoreN X0.here hx rfl (hb hby d4_1) rfl (l' := #[rv a, .val (.int 0)]) rfl k) ?_
  refine own_S (mkF m 3 #[rv a, .val (.int 0)] [(.int 0)]) (fun _ k => XS.iloadN X0.here hx rfl (hb hby d4_2) rfl k) ?_
  refine own_S (mkF m 4 #[rv a, .val (.int 0)] [(.ref a), (.int 0)]) (fun _ k => XS.aloadN X0.here hx rfl (hb hby d4_3) rfl rfl k) ?_
  obtain ⟨T1, X1, e1, st1⟩ := getF X0 hx hZ hown (host := "") (Or.inl (own_g hw (i := 28) rfl)) Via.refl e0 P5 (g := (mkF m 4 #[rv a, .val (.int 0)] [(.ref a), (.int 0)])) rfl rfl (hb hby d4_4)
  refine own_S (mkF m 7 #[rv a, .val (.int 0)] [(.int 3), (.int 0)]) st1 ?_
  have hc2 : (0 : Int32) < (3 : Int32) := by decide
  refine own_S (mkF m 10 #[rv a, .val (.int 0)] []) (fun _ k => XS.icmpNo X1.here hx rfl (hb hby d4_7) rfl (tlt hc2).2.1 k) ?_
  refine own_S (mkF m 11 #[rv a, .val (.int 0)] [(.ref a)]) (fun _ k => XS.aloadN X1.here hx rfl (hb hby d4_10) rfl rfl k) ?_
  obtain ⟨T3, X3, e3, st3⟩ := getF X1 hx hZ hown (host := "") (Or.inl (own_g hw (i := 15) rfl)) Via.refl e1 P3 (g := (mkF m 11 #[rv a, .val (.int 0)] [(.ref a)])) rfl rfl (hb hby d4_11)
  refine own_S (mkF m 14 #[rv a, .val (.int 0)] [(.ref pa)]) st3 ?_
  refine own_S (mkF m 15 #[rv a, .val (.int 0)] [(.ref a), (.ref pa)]) (fun _ k => XS.aloadN X3.here hx rfl (hb hby d4_14) rfl rfl k) ?_
  obtain ⟨T4, X4, e4, st4⟩ := getF X3 hx hZ hown (host := "") (Or.inl (own_g hw (i := 13) rfl)) Via.refl e3 P2 (g := (mkF m 15 #[rv a, .val (.int 0)] [(.ref a), (.ref pa)])) rfl rfl (hb hby d4_15)
  refine own_S (mkF m 18 #[rv a, .val (.int 0)] [(.ref ha), (.ref pa)]) st4 ?_
  refine own_S (mkF m 19 #[rv a, .val (.int 0)] [(.int 0), (.ref ha), (.ref pa)]) (fun _ k => XS.iloadN X4.here hx rfl (hb hby d4_18) rfl k) ?_
  refine own_S (mkF m 20 #[rv a, .val (.int 0)] [(.int x0), (.ref pa)]) (fun _ k => own_ldI (j := (0 : Int32)) (v := (.int x0)) X4 hx hZ e4 P8 (by decide) hv0 (g := (mkF m 19 #[rv a, .val (.int 0)] [(.int 0), (.ref ha), (.ref pa)])) rfl rfl (hb hby d4_19) _ k) ?_
  refine own_S (mkF m 21 #[rv a, .val (.int 0)] [(.int (-1)), (.int x0), (.ref pa)]) (fun _ k => XS.iconst X4.here hx rfl (hb hby d4_20) k) ?_
  obtain ⟨T5, h5, X5, e5, W5, AR5, st5⟩ := own_stI (j := x0) X4 hx hZ e4 P9 hz0 (by first | exact hl0 | (simp only [List.length_set]; exact hl0)) (g := (mkF m 21 #[rv a, .val (.int 0)] [(.int (-1)), (.int x0), (.ref pa)])) rfl rfl (hb hby d4_21)
  refine own_S (mkF m 22 #[rv a, .val (.int 0)] []) st5 ?_
  have F6 := P0.wr W5
  have F7 := P1.other W5 (Or.inl NE_a_pa)
  have F8 := P2.other W5 (Or.inl NE_a_pa)
  have F9 := P3.other W5 (Or.inl NE_a_pa)
  have F10 := P4.other W5 (Or.inl NE_a_pa)
  have F11 := P5.other W5 (Or.inl NE_a_pa)
  have F12 := P6.other W5 (Or.inl NE_a_pa)
  have F13 := P7.other W5 NE_da_pa
  have F14 := P8.other W5 NE_ha_pa
  have F15 := P10.other W5 (Ne.symm NE_pa_oa)
  have F16 : own_Ar Z h5 pa kp .int (P.set (x0).toNatClampNeg (.int (-1))) := AR5
  have N5 := Fr.snoc X5 N0 G_pa
  have Z5 : n0 ≤ h5.size := by rw [Wr.size W5]; exact Z0
  have K5 : Keep h0 h5 [a, pa] := (Keep.refl _ _).wr W5 (Or.inl (List.mem_of_getElem? (i := 1) rfl))
  refine own_S (mkF m 25 #[rv a, .val (.int 1)] []) (fun _ k => XS.iinc X5.here hx rfl (hb hby d4_22) rfl (l' := #[rv a, .val (.int 1)]) rfl k) ?_
  refine own_S (mkF m 2 #[rv a, .val (.int 1)] []) (fun _ k => XS.goto X5.here hx rfl (pc0 := 25) (pc' := 2) rfl (hb hby d4_25) (by decide) (by decide) k) ?_
  refine own_S (mkF m 3 #[rv a, .val (.int 1)] [(.int 1)]) (fun _ k => XS.iloadN X5.here hx rfl (hb hby d4_2) rfl k) ?_
  refine own_S (mkF m 4 #[rv a, .val (.int 1)] [(.ref a), (.int 1)]) (fun _ k => XS.aloadN X5.here hx rfl (hb hby d4_3) rfl rfl k) ?_
  obtain ⟨T17, X17, e17, st17⟩ := getF X5 hx hZ hown (host := "") (Or.inl (own_g hw (i := 28) rfl)) Via.refl e5 F11 (g := (mkF m 4 #[rv a, .val (.int 1)] [(.ref a), (.int 1)])) rfl rfl (hb hby d4_4)
  refine own_S (mkF m 7 #[rv a, .val (.int 1)] [(.int 3), (.int 1)]) st17 ?_
  have hc18 : (1 : Int32) < (3 : Int32) := by decide
  refine own_S (mkF m 10 #[rv a, .val (.int 1)] []) (fun _ k => XS.icmpNo X17.here hx rfl (hb hby d4_7) rfl (tlt hc18).2.1 k) ?_
  refine own_S (mkF m 11 #[rv a, .val (.int 1)] [(.ref a)]) (fun _ k => XS.aloadN X17.here hx rfl (hb hby d4_10) rfl rfl k) ?_
  obtain ⟨T19, X19, e19, st19⟩ := getF X17 hx hZ hown (host := "") (Or.inl (own_g hw (i := 15) rfl)) Via.refl e17 F9 (g := (mkF m 11 #[rv a, .val (.int 1)] [(.ref a)])) rfl rfl (hb hby d4_11)
  refine own_S (mkF m 14 #[rv a, .val (.int 1)] [(.ref pa)]) st19 ?_
  refine own_S (mkF m 15 #[rv a, .val (.int 1)] [(.ref a), (.ref pa)]) (fun _ k => XS.aloadN X19.here hx rfl (hb hby d4_14) rfl rfl k) ?_
  obtain ⟨T20, X20, e20, st20⟩ := getF X19 hx hZ hown (host := "") (Or.inl (own_g hw (i := 13) rfl)) Via.refl e19 F8 (g := (mkF m 15 #[rv a, .val (.int 1)] [(.ref a), (.ref pa)])) rfl rfl (hb hby d4_15)
  refine own_S (mkF m 18 #[rv a, .val (.int 1)] [(.ref ha), (.ref pa)]) st20 ?_
  refine own_S (mkF m 19 #[rv a, .val (.int 1)] [(.int 1), (.ref ha), (.ref pa)]) (fun _ k => XS.iloadN X20.here hx rfl (hb hby d4_18) rfl k) ?_
  refine own_S (mkF m 20 #[rv a, .val (.int 1)] [(.int x1), (.ref pa)]) (fun _ k => own_ldI (j := (1 : Int32)) (v := (.int x1)) X20 hx hZ e20 F14 (by decide) hv1 (g := (mkF m 19 #[rv a, .val (.int 1)] [(.int 1), (.ref ha), (.ref pa)])) rfl rfl (hb hby d4_19) _ k) ?_
  refine own_S (mkF m 21 #[rv a, .val (.int 1)] [(.int (-1)), (.int x1), (.ref pa)]) (fun _ k => XS.iconst X20.here hx rfl (hb hby d4_20) k) ?_
  obtain ⟨T21, h21, X21, e21, W21, AR21, st21⟩ := own_stI (j := x1) X20 hx hZ e20 F16 hz1 (by first | exact hl1 | (simp only [List.length_set]; exact hl1)) (g := (mkF m 21 #[rv a, .val (.int 1)] [(.int (-1)), (.int x1), (.ref pa)])) rfl rfl (hb hby d4_21)
  refine own_S (mkF m 22 #[rv a, .val (.int 1)] []) st21 ?_
  have F22 := F6.wr W21
  have F23 := F7.other W21 (Or.inl NE_a_pa)
  have F24 := F8.other W21 (Or.inl NE_a_pa)
  have F25 := F9.other W21 (Or.inl NE_a_pa)
  have F26 := F10.other W21 (Or.inl NE_a_pa)
  have F27 := F11.other W21 (Or.inl NE_a_pa)
  have F28 := F12.other W21 (Or.inl NE_a_pa)
  have F29 := F13.other W21 NE_da_pa
  have F30 := F14.other W21 NE_ha_pa
  have F31 := F15.other W21 (Ne.symm NE_pa_oa)
  have F32 : own_Ar Z h21 pa kp .int ((P.set (x0).toNatClampNeg (.int (-1))).set (x1).toNatClampNeg (.int (-1))) := AR21
  have N21 := Fr.snoc X21 N5 G_pa
  have Z21 : n0 ≤ h21.size := by rw [Wr.size W21]; exact Z5
  have K21 : Keep h0 h21 [a, pa] := K5.wr W21 (Or.inl (List.mem_of_getElem? (i := 1) rfl))
  refine own_S (mkF m 25 #[rv a, .val (.int 2)] []) (fun _ k => XS.iinc X21.here hx rfl (hb hby d4_22) rfl (l' := #[rv a, .val (.int 2)]) rfl k) ?_
  refine own_S (mkF m 2 #[rv a, .val (.int 2)] []) (fun _ k => XS.goto X21.here hx rfl (pc0 := 25) (pc' := 2) rfl (hb hby d4_25) (by decide) (by decide) k) ?_
  refine own_S (mkF m 3 #[rv a, .val (.int 2)] [(.int 2)]) (fun _ k => XS.iloadN X21.here hx rfl (hb hby d4_2) rfl k) ?_
  refine own_S (mkF m 4 #[rv a, .val (.int 2)] [(.ref a), (.int 2)]) (fun _ k => XS.aloadN X21.here hx rfl (hb hby d4_3) rfl rfl k) ?_
  obtain ⟨T33, X33, e33, st33⟩ := getF X21 hx hZ hown (host := "") (Or.inl (own_g hw (i := 28) rfl)) Via.refl e21 F27 (g := (mkF m 4 #[rv a, .val (.int 2)] [(.ref a), (.int 2)])) rfl rfl (hb hby d4_4)
  refine own_S (mkF m 7 #[rv a, .val (.int 2)] [(.int 3), (.int 2)]) st33 ?_
  have hc34 : (2 : Int32) < (3 : Int32) := by decide
  refine own_S (mkF m 10 #[rv a, .val (.int 2)] []) (fun _ k => XS.icmpNo X33.here hx rfl (hb hby d4_7) rfl (tlt hc34).2.1 k) ?_
  refine own_S (mkF m 11 #[rv a, .val (.int 2)] [(.ref a)]) (fun _ k => XS.aloadN X33.here hx rfl (hb hby d4_10) rfl rfl k) ?_
  obtain ⟨T35, X35, e35, st35⟩ := getF X33 hx hZ hown (host := "") (Or.inl (own_g hw (i := 15) rfl)) Via.refl e33 F25 (g := (mkF m 11 #[rv a, .val (.int 2)] [(.ref a)])) rfl rfl (hb hby d4_11)
  refine own_S (mkF m 14 #[rv a, .val (.int 2)] [(.ref pa)]) st35 ?_
  refine own_S (mkF m 15 #[rv a, .val (.int 2)] [(.ref a), (.ref pa)]) (fun _ k => XS.aloadN X35.here hx rfl (hb hby d4_14) rfl rfl k) ?_
  obtain ⟨T36, X36, e36, st36⟩ := getF X35 hx hZ hown (host := "") (Or.inl (own_g hw (i := 13) rfl)) Via.refl e35 F24 (g := (mkF m 15 #[rv a, .val (.int 2)] [(.ref a), (.ref pa)])) rfl rfl (hb hby d4_15)
  refine own_S (mkF m 18 #[rv a, .val (.int 2)] [(.ref ha), (.ref pa)]) st36 ?_
  refine own_S (mkF m 19 #[rv a, .val (.int 2)] [(.int 2), (.ref ha), (.ref pa)]) (fun _ k => XS.iloadN X36.here hx rfl (hb hby d4_18) rfl k) ?_
  refine own_S (mkF m 20 #[rv a, .val (.int 2)] [(.int x2), (.ref pa)]) (fun _ k => own_ldI (j := (2 : Int32)) (v := (.int x2)) X36 hx hZ e36 F30 (by decide) hv2 (g := (mkF m 19 #[rv a, .val (.int 2)] [(.int 2), (.ref ha), (.ref pa)])) rfl rfl (hb hby d4_19) _ k) ?_
  refine own_S (mkF m 21 #[rv a, .val (.int 2)] [(.int (-1)), (.int x2), (.ref pa)]) (fun _ k => XS.iconst X36.here hx rfl (hb hby d4_20) k) ?_
  obtain ⟨T37, h37, X37, e37, W37, AR37, st37⟩ := own_stI (j := x2) X36 hx hZ e36 F32 hz2 (by first | exact hl2 | (simp only [List.length_set]; exact hl2)) (g := (mkF m 21 #[rv a, .val (.int 2)] [(.int (-1)), (.int x2), (.ref pa)])) rfl rfl (hb hby d4_21)
  refine own_S (mkF m 22 #[rv a, .val (.int 2)] []) st37 ?_
  have F38 := F22.wr W37
  have F39 := F23.other W37 (Or.inl NE_a_pa)
  have F40 := F24.other W37 (Or.inl NE_a_pa)
  have F41 := F25.other W37 (Or.inl NE_a_pa)
  have F42 := F26.other W37 (Or.inl NE_a_pa)
  have F43 := F27.other W37 (Or.inl NE_a_pa)
  have F44 := F28.other W37 (Or.inl NE_a_pa)
  have F45 := F29.other W37 NE_da_pa
  have F46 := F30.other W37 NE_ha_pa
  have F47 := F31.other W37 (Ne.symm NE_pa_oa)
  have F48 : own_Ar Z h37 pa kp .int (((P.set (x0).toNatClampNeg (.int (-1))).set (x1).toNatClampNeg (.int (-1))).set (x2).toNatClampNeg (.int (-1))) := AR37
  have N37 := Fr.snoc X37 N21 G_pa
  have Z37 : n0 ≤ h37.size := by rw [Wr.size W37]; exact Z21
  have K37 : Keep h0 h37 [a, pa] := K21.wr W37 (Or.inl (List.mem_of_getElem? (i := 1) rfl))
  refine own_S (mkF m 25 #[rv a, .val (.int 3)] []) (fun _ k => XS.iinc X37.here hx rfl (hb hby d4_22) rfl (l' := #[rv a, .val (.int 3)]) rfl k) ?_
  refine own_S (mkF m 2 #[rv a, .val (.int 3)] []) (fun _ k => XS.goto X37.here hx rfl (pc0 := 25) (pc' := 2) rfl (hb hby d4_25) (by decide) (by decide) k) ?_
  refine own_S (mkF m 3 #[rv a, .val (.int 3)] [(.int 3)]) (fun _ k => XS.iloadN X37.here hx rfl (hb hby d4_2) rfl k) ?_
  refine own_S (mkF m 4 #[rv a, .val (.int 3)] [(.ref a), (.int 3)]) (fun _ k => XS.aloadN X37.here hx rfl (hb hby d4_3) rfl rfl k) ?_
  obtain ⟨T49, X49, e49, st49⟩ := getF X37 hx hZ hown (host := "") (Or.inl (own_g hw (i := 28) rfl)) Via.refl e37 F43 (g := (mkF m 4 #[rv a, .val (.int 3)] [(.ref a), (.int 3)])) rfl rfl (hb hby d4_4)
  refine own_S (mkF m 7 #[rv a, .val (.int 3)] [(.int 3), (.int 3)]) st49 ?_
  have hc50 : ¬ ((3 : Int32) < (3 : Int32)) := by decide
  refine own_S (mkF m 28 #[rv a, .val (.int 3)] []) (fun _ k => XS.icmpYes X49.here hx rfl (pc0 := 7) (pc' := 28) rfl (hb hby d4_7) rfl (flt hc50).2.1 (by decide) (by decide) k) ?_
  refine own_S (mkF m 29 #[rv a, .val (.int 3)] [(.ref a)]) (fun _ k => XS.aloadN X49.here hx rfl (hb hby d4_28) rfl rfl k) ?_
  refine own_S (mkF m 30 #[rv a, .val (.int 3)] [(.int 0), (.ref a)]) (fun _ k => XS.iconst X49.here hx rfl (hb hby d4_29) k) ?_
  obtain ⟨T51, h51, X51, e51, W51, st51⟩ := putF X49 hx hZ hown (host := "") (Or.inl (own_g hw (i := 28) rfl)) Via.refl e49 F43 F38 (Or.inl (own_g hw (i := 29) rfl)) (own_g hw (i := 2) rfl) (ty := .int) (by decide) rfl rfl (g := (mkF m 30 #[rv a, .val (.int 3)] [(.int 0), (.ref a)])) rfl rfl (hb hby d4_30)
  refine own_S (mkF m 33 #[rv a, .val (.int 3)] []) st51 ?_
  have F52 := F38.wr W51
  have F53 := F39.other W51 (Or.inr (slot_ne (Or.inr (own_g hw (i := 11) rfl)) (Or.inl (own_g hw (i := 29) rfl)) (by decide) (t := (.array .long)) (t' := .int) (by decide) (by decide)))
  have F54 := F40.other W51 (Or.inr (slot_ne (Or.inr (own_g hw (i := 14) rfl)) (Or.inl (own_g hw (i := 29) rfl)) (by decide) (t := (.array .int)) (t' := .int) (by decide) (by decide)))
  have F55 := F41.other W51 (Or.inr (slot_ne (Or.inr (own_g hw (i := 16) rfl)) (Or.inl (own_g hw (i := 29) rfl)) (by decide) (t := (.array .int)) (t' := .int) (by decide) (by decide)))
  have F56 := F42.other W51 (Or.inr (slot_ne (Or.inr (own_g hw (i := 18) rfl)) (Or.inl (own_g hw (i := 29) rfl)) (by decide) (t := (.array .long)) (t' := .int) (by decide) (by decide)))
  have F57 := F43.same W51
  have F58 := F44.other W51 (Or.inr (slot_ne (Or.inl (own_g hw (i := 42) rfl)) (Or.inl (own_g hw (i := 29) rfl)) (by decide) (t := .long) (t' := .int) (by decide) (by decide)))
  have F59 := F45.other W51 (Ne.symm NE_a_da)
  have F60 := F46.other W51 (Ne.symm NE_a_ha)
  have F61 := F47.other W51 (Ne.symm NE_a_oa)
  have F62 := F48.other W51 (Ne.symm NE_a_pa)
  have N51 := Fr.snoc X51 N37 G_a
  have Z51 : n0 ≤ h51.size := by rw [Wr.size W51]; exact Z37
  have K51 : Keep h0 h51 [a, pa] := K37.wr W51 (Or.inl (List.mem_of_getElem? (i := 0) rfl))
  exact own_ret0 X51 hx hlk hret (hb hby d4_33) (by rw [e51]; exact ⟨rfl, N51, K51, F52, F53, F54, F55, F56, F57, F58, F62⟩) (by decide) (by decide)
theorem d11_0 : decode prog_8_method_10_code 0 = .ok (.aload_n 0, 1) := by decide +kernel
theorem d11_1 : decode prog_8_method_10_code 1 = .ok (.getfield 13, 3) := by decide +kernel
theorem d11_4 : decode prog_8_method_10_code 4 = .ok (.iload_n 1, 1) := by decide +kernel
theorem d11_5 : decode prog_8_method_10_code 5 = .ok (.iaload, 1) := by decide +kernel
theorem d11_6 : decode prog_8_method_10_code 6 = .ok (.istore_n 2, 1) := by decide +kernel
theorem d11_7 : decode prog_8_method_10_code 7 = .ok (.iconst 2, 1) := by decide +kernel
theorem d11_8 : decode prog_8_method_10_code 8 = .ok (.iload_n 1, 1) := by decide +kernel
theorem d11_9 : decode prog_8_method_10_code 9 = .ok (.imul, 1) := by decide +kernel
theorem d11_10 : decode prog_8_method_10_code 10 = .ok (.iconst 1, 1) := by decide +kernel
theorem d11_11 : decode prog_8_method_10_code 11 = .ok (.iadd, 1) := by decide +kernel
theorem d11_12 : decode prog_8_method_10_code 12 = .ok (.istore_n 3, 1) := by decide +kernel
theorem d11_13 : decode prog_8_method_10_code 13 = .ok (.iload_n 3, 1) := by decide +kernel
theorem d11_14 : decode prog_8_method_10_code 14 = .ok (.aload_n 0, 1) := by decide +kernel
theorem d11_15 : decode prog_8_method_10_code 15 = .ok (.getfield 29, 3) := by decide +kernel
theorem d11_18 : decode prog_8_method_10_code 18 = .ok (.if_icmp .ge 76, 3) := by decide +kernel
theorem d11_94 : decode prog_8_method_10_code 94 = .ok (.aload_n 0, 1) := by decide +kernel
theorem d11_95 : decode prog_8_method_10_code 95 = .ok (.iload_n 2, 1) := by decide +kernel
theorem d11_96 : decode prog_8_method_10_code 96 = .ok (.iload_n 1, 1) := by decide +kernel
theorem d11_97 : decode prog_8_method_10_code 97 = .ok (.invokevirtual 41, 3) := by decide +kernel
theorem d11_100 : decode prog_8_method_10_code 100 = .ok (.return_, 1) := by decide +kernel
theorem own_pf_sd : plainFor own_y8 = true := by first | exact plainFor_of_name (show plainName "com/example/stickler/stickler/assignment/NodeQueue" = true by first | (simp [plainName, overriddenIn]; done) | decide +kernel) | decide +kernel
theorem own_ef_sd (m : MethodId) (y0 : Addr) (y1 : Int32) : entryFrame m #[(.ref y0), (.int y1)] 4 = mkF m 0 #[rv y0, iv y1, .unset, .unset] [] := by first | (simp [entryFrame, mkF, argsToLocals, Value.category]; done) | rfl
def own_Qsd (Z : State) (a : Addr) (ha : Addr) (pa : Addr) (kh : ClassId) (kp : ClassId) (H : List Value) (P : List Value) (nd : Int32) (h0 : Heap) (n0 : Nat) (v : Option Value) (h : Heap) (L : List Loc) : Prop := v = none ∧ Fr n0 L ∧ Keep h0 h [ha, pa] ∧ own_Ar Z h ha kh .int (H.set 0 (.int nd)) ∧ own_Ar Z h pa kp .int (P.set (nd).toNatClampNeg (.int (0 : Int32)))
set_option maxRecDepth 65536 in
set_option maxHeartbeats 40000000 in
theorem own_rmsd (l : Launch) (Z : State) (a0 : Array Value) (hw : ∀ d ∈ tables_1, d.before a0 Z = true) (ws : List Jvm.Cond) (a : Addr) (ha : Addr) (pa : Addr) (kh : ClassId) (kp : ClassId) (H : List Value) (P : List Value) (nd : Int32) (h0 : Heap) (n0 : Nat) (Z0 : n0 ≤ h0.size) (P0 : Exa Z h0 a "com/example/stickler/stickler/assignment/NodeQueue") (P1 : Fld Z h0 a "com/example/stickler/stickler/assignment/NodeQueue" "heap" "[I" (.ref ha)) (P2 : Fld Z h0 a "com/example/stickler/stickler/assignment/NodeQueue" "place" "[I" (.ref pa)) (P3 : Fld Z h0 a "com/example/stickler/stickler/assignment/NodeQueue" "size" "I" (.int (1 : Int32))) (P4 : own_Ar Z h0 ha kh .int H) (P5 : own_Ar Z h0 pa kp .int P) (G_ha : n0 ≤ ha) (G_pa : n0 ≤ pa) (NE_a_ha : a ≠ ha) (NE_a_pa : a ≠ pa) (NE_ha_pa : ha ≠ pa) (h0v : H[0]? = some (.int nd)) (hn0 : ¬ nd < (0 : Int32)) (hn1 : (nd).toNatClampNeg < P.length) :
    MetFree l own_y8 (head1 (Jvm.Cond.code own_y8 prog_8_method_10_code 4 none :: ws) ({ frames := 1, cells := 0, slots := 0, locals := 14 } : Room)) (fun az Uz => az = #[(.ref a), (.int 0)] ∧ Z.Warmed39 Uz.vm ∧ Uz.heap = h0) (fun _ _ _ _ _ => True) (fun _ U o U' => ∃ v L, o = .returned v ∧ own_Qsd Z a ha pa kh kp H P nd h0 n0 v U'.heap L ∧ FrameEnd U o U' L ({ frames := 1, cells := 0, slots := 0, locals := 14 } : Room).cells ({ frames := 1, cells := 0, slots := 0, locals := 14 } : Room).slots) := by
  refine MetFree.of_bodySF own_pf_sd hisR ?_
  intro p e s m args below meth c s₁ Bd hml0 hP hK
  obtain ⟨rfl, hZ, hh⟩ := hP
  have hx := Bd.exec
  have hby := Bd.bytes
  have hml : c.maxLocals = 4 := hml0
  have hown : s.vm.findClass "com/example/stickler/stickler/assignment/NodeQueue" = some m.cls := findClass_of_methodNamed Bd.named
  have hnm := (name_of_methodNamed Bd.named Bd.method).1
  have hlk : meth.locks = false := BodyLoose.notSynchronized Bd
  have hret := Bd.returns
  have X0 : Stand p l e ({ frames := 1, cells := 0, slots := 0, locals := 14 } : Room) s m #[(.ref a), (.int 0)] below meth c s₁ [] 0 0 := Stand.of_body Bd
  have e0 : s₁.heap = h0 := by rw [← hh, Bd.state]; rfl
  have N0 := Fr.nil n0
  show own_E p e below (own_K s (own_Qsd Z a ha pa kh kp H P nd h0 n0) ({ frames := 1, cells := 0, slots := 0, locals := 14 } : Room).cells ({ frames := 1, cells := 0, slots := 0, locals := 14 } : Room).slots) s₁ (entryFrame m #[(.ref a), (.int 0)] 4)
  refine own_S (mkF m 0 #[rv a, .val (.int 0), .unset, .unset] []) (fun _ k => castTop (own_ef_sd m (a) ((0 : Int32))) k) ?_
  refine own_S (mkF m 1 #[rv a, .val (.int 0), .unset, .unset] [(.ref a)]) (fun _ k => XS.aloadN X0.here hx rfl (hb hby d11_0) rfl rfl k) ?_
  obtain ⟨T1, X1, e1, st1⟩ := getF X0 hx hZ hown (host := "") (Or.inl (own_g hw (i := 13) rfl)) Via.refl e0 P1 (g := (mkF m 1 #[rv a, .val (.int 0), .unset, .unset] [(.ref a)])) rfl rfl (hb hby d11_1)
  refine own_S (mkF m 4 #[rv a, .val (.int 0), .unset, .unset] [(.ref ha)]) st1 ?_
  refine own_S (mkF m 5 #[rv a, .val (.int 0), .unset, .unset] [(.int 0), (.ref ha)]) (fun _ k => XS.iloadN X1.here hx rfl (hb hby d11_4) rfl k) ?_
  refine own_S (mkF m 6 #[rv a, .val (.int 0), .unset, .unset] [(.int nd)]) (fun _ k => own_ldI (j := (0 : Int32)) (v := (.int nd)) X1 hx hZ e1 P4 (by decide) h0v (g := (mkF m 5 #[rv a, .val (.int 0), .unset, .unset] [(.int 0), (.ref ha)])) rfl rfl (hb hby d11_5) _ k) ?_
  refine own_S (mkF m 7 #[rv a, .val (.int 0), iv nd, .unset] []) (fun _ k => XS.istoreN X1.here hx rfl (hb hby d11_6) rfl (l' := #[rv a, .val (.int 0), iv nd, .unset]) rfl k) ?_
  refine own_S (mkF m 8 #[rv a, .val (.int 0), iv nd, .unset] [(.int 2)]) (fun _ k => XS.iconst X1.here hx rfl (hb hby d11_7) k) ?_
  refine own_S (mkF m 9 #[rv a, .val (.int 0), iv nd, .unset] [(.int 0), (.int 2)]) (fun _ k => XS.iloadN X1.here hx rfl (hb hby d11_8) rfl k) ?_
  refine own_S (mkF m 10 #[rv a, .val (.int 0), iv nd, .unset] [(.int 0)]) (fun _ k => XS.imul X1.here hx rfl (hb hby d11_9) rfl k) ?_
  refine own_S (mkF m 11 #[rv a, .val (.int 0), iv nd, .unset] [(.int 1), (.int 0)]) (fun _ k => XS.iconst X1.here hx rfl (hb hby d11_10) k) ?_
  refine own_S (mkF m 12 #[rv a, .val (.int 0), iv nd, .unset] [(.int 1)]) (fun _ k => XS.iadd X1.here hx rfl (hb hby d11_11) rfl k) ?_
  refine own_S (mkF m 13 #[rv a, .val (.int 0), iv nd, .val (.int 1)] []) (fun _ k => XS.istoreN X1.here hx rfl (hb hby d11_12) rfl (l' := #[rv a, .val (.int 0), iv nd, .val (.int 1)]) rfl k) ?_
  refine own_S (mkF m 14 #[rv a, .val (.int 0), iv nd, .val (.int 1)] [(.int 1)]) (fun _ k => XS.iloadN X1.here hx rfl (hb hby d11_13) rfl k) ?_
  refine own_S (mkF m 15 #[rv a, .val (.int 0), iv nd, .val (.int 1)] [(.ref a), (.int 1)]) (fun _ k => XS.aloadN X1.here hx rfl (hb hby d11_14) rfl rfl k) ?_
  obtain ⟨T2, X2, e2, st2⟩ := getF X1 hx hZ hown (host := "") (Or.inl (own_g hw (i := 28) rfl)) Via.refl e1 P3 (g := (mkF m 15 #[rv a, .val (.int 0), iv nd, .val (.int 1)] [(.ref a), (.int 1)])) rfl rfl (hb hby d11_15)
  refine own_S (mkF m 18 #[rv a, .val (.int 0), iv nd, .val (.int 1)] [(.int 1), (.int 1)]) st2 ?_
  have hc3 : ¬ ((1 : Int32) < (1 : Int32)) := by decide
  refine own_S (mkF m 94 #[rv a, .val (.int 0), iv nd, .val (.int 1)] []) (fun _ k => XS.icmpYes X2.here hx rfl (pc0 := 18) (pc' := 94) rfl (hb hby d11_18) rfl (flt hc3).2.1 (by decide) (by decide) k) ?_
  refine own_S (mkF m 95 #[rv a, .val (.int 0), iv nd, .val (.int 1)] [(.ref a)]) (fun _ k => XS.aloadN X2.here hx rfl (hb hby d11_94) rfl rfl k) ?_
  refine own_S (mkF m 96 #[rv a, .val (.int 0), iv nd, .val (.int 1)] [(.int nd), (.ref a)]) (fun _ k => XS.iloadN X2.here hx rfl (hb hby d11_95) rfl k) ?_
  refine own_S (mkF m 97 #[rv a, .val (.int 0), iv nd, .val (.int 1)] [(.int 0), (.int nd), (.ref a)]) (fun _ k => XS.iloadN X2.here hx rfl (hb hby d11_96) rfl k) ?_
  obtain ⟨cq4, q4a, q4b⟩ := Exa.cell P0
  obtain ⟨_, _, ⟨T4, L4, k4, n4⟩, -, X4, ⟨Lc4, hQ4, l4, y4, z4⟩, st4⟩ := X2.privateBack hx (y := own_y3) hown (mvT hZ (own_g hw (i := 47) rfl)) (mvT hZ (own_g hw (i := 48) rfl)) (own_selP (mvT hZ (own_g hw (i := 2) rfl)) (Cond.privateMethod_at (mvP hZ (own_g hw (i := 49) rfl) (args := #[]))) (mvT hZ (own_g hw (i := 48) rfl)) (by decide)) (Cond.privateMethod_at (mvP hZ (own_g hw (i := 49) rfl) (args := #[]))) (mvT hZ (own_g hw (i := 50) rfl)) (by decide) (backOf (W := 0) (own_rmmt l Z a0 hw [] (a) (ha) (pa) (nd) ((0 : Int32)) (kh) (kp) (H) (P) h0 n0 Z0 P1 P2 P4 P5 G_ha G_pa NE_a_ha NE_a_pa NE_ha_pa (by decide) (own_lt_of h0v) hn0 hn1) hZ (own_g hw (i := 50) rfl) (own_g hw (i := 3) rfl) (by decide) (by decide)) (g := (mkF m 97 #[rv a, .val (.int 0), iv nd, .val (.int 1)] [(.int 0), (.int nd), (.ref a)])) rfl (by rw [hml]; rfl) (Steps.refl _) (a := a) (by rw [e2]; exact q4a) q4b (argsL := [(.int nd), (.int 0)]) (rest := []) (lenOf own_pd__II_V rfl) rfl (by show 2 * 0 + _ ≤ _; exact Nat.le_of_eq rfl) (hb hby d11_97) (fun _ _ => ⟨rfl, e2, (by decide : 0 + 0 ≤ _), (by decide : 0 + 0 ≤ _)⟩)
  dsimp only [Pt.U, Pt.locs, Pt.cells, Pt.slots] at X4 l4 y4 z4 st4 hQ4
  subst l4 y4 z4
  obtain ⟨rfl, N4q, K4q, F5, F6⟩ := hQ4
  have N4 := Fr.app N0 N4q
  refine own_S (mkF m 100 #[rv a, .val (.int 0), iv nd, .val (.int 1)] []) (fun _ k => st4.trans k) ?_
  have K4 : Keep h0 T4.heap [ha, pa] := (Keep.refl h0 [ha, pa]).trans K4q (allS (Or.inl (List.mem_of_getElem? (i := 0) rfl)) (allS (Or.inl (List.mem_of_getElem? (i := 1) rfl)) all0))
  have F7 := P0.keep K4q
  have F8 := P1.keep K4q (ninS NE_a_ha (ninS NE_a_pa nin0))
  have F9 := P2.keep K4q (ninS NE_a_ha (ninS NE_a_pa nin0))
  have F10 := P3.keep K4q (ninS NE_a_ha (ninS NE_a_pa nin0))
  have Z4 : n0 ≤ T4.heap.size := Nat.le_trans Z0 K4q.1
  exact own_ret0 X4 hx hlk hret (hb hby d11_100) ⟨rfl, N4, K4, F5, F6⟩ (by decide) (by decide)
theorem d10_0 : decode prog_8_method_6_code 0 = .ok (.aload_n 0, 1) := by decide +kernel
theorem d10_1 : decode prog_8_method_6_code 1 = .ok (.getfield 13, 3) := by decide +kernel
theorem d10_4 : decode prog_8_method_6_code 4 = .ok (.iconst 0, 1) := by decide +kernel
theorem d10_5 : decode prog_8_method_6_code 5 = .ok (.iaload, 1) := by decide +kernel
theorem d10_6 : decode prog_8_method_6_code 6 = .ok (.istore_n 1, 1) := by decide +kernel
theorem d10_7 : decode prog_8_method_6_code 7 = .ok (.aload_n 0, 1) := by decide +kernel
theorem d10_8 : decode prog_8_method_6_code 8 = .ok (.getfield 17, 3) := by decide +kernel
theorem d10_11 : decode prog_8_method_6_code 11 = .ok (.iload_n 1, 1) := by decide +kernel
theorem d10_12 : decode prog_8_method_6_code 12 = .ok (.iconst (-1), 1) := by decide +kernel
theorem d10_13 : decode prog_8_method_6_code 13 = .ok (.iastore, 1) := by decide +kernel
theorem d10_14 : decode prog_8_method_6_code 14 = .ok (.aload_n 0, 1) := by decide +kernel
theorem d10_15 : decode prog_8_method_6_code 15 = .ok (.dup, 1) := by decide +kernel
theorem d10_16 : decode prog_8_method_6_code 16 = .ok (.getfield 29, 3) := by decide +kernel
theorem d10_19 : decode prog_8_method_6_code 19 = .ok (.iconst 1, 1) := by decide +kernel
theorem d10_20 : decode prog_8_method_6_code 20 = .ok (.isub, 1) := by decide +kernel
theorem d10_21 : decode prog_8_method_6_code 21 = .ok (.dup_x1, 1) := by decide +kernel
theorem d10_22 : decode prog_8_method_6_code 22 = .ok (.putfield 29, 3) := by decide +kernel
theorem d10_25 : decode prog_8_method_6_code 25 = .ok (.ifCond .le 23, 3) := by decide +kernel
theorem d10_48 : decode prog_8_method_6_code 48 = .ok (.iload_n 1, 1) := by decide +kernel
theorem d10_49 : decode prog_8_method_6_code 49 = .ok (.ireturn, 1) := by decide +kernel
theorem own_pf_po1 : plainFor own_y9 = true := by first | exact plainFor_of_name (show plainName "com/example/stickler/stickler/assignment/NodeQueue" = true by first | (simp [plainName, overriddenIn]; done) | decide +kernel) | decide +kernel
theorem own_ef_po1 (m : MethodId) (y0 : Addr) : entryFrame m #[(.ref y0)] 2 = mkF m 0 #[rv y0, .unset] [] := by first | (simp [entryFrame, mkF, argsToLocals, Value.category]; done) | rfl
def own_Qpo1 (Z : State) (a : Addr) (da : Addr) (ha : Addr) (pa : Addr) (oa : Addr) (kd : ClassId) (kh : ClassId) (kp : ClassId) (ko : ClassId) (D : List Value) (H : List Value) (P : List Value) (O : List Value) (of : Int64) (xx : Int32) (h0 : Heap) (n0 : Nat) (v : Option Value) (h : Heap) (L : List Loc) : Prop := v = some (.int xx) ∧ Fr n0 L ∧ Keep h0 h [a, ha, pa] ∧ Exa Z h a "com/example/stickler/stickler/assignment/NodeQueue" ∧ Fld Z h a "com/example/stickler/stickler/assignment/NodeQueue" "distance" "[J" (.ref da) ∧ Fld Z h a "com/example/stickler/stickler/assignment/NodeQueue" "heap" "[I" (.ref ha) ∧ Fld Z h a "com/example/stickler/stickler/assignment/NodeQueue" "place" "[I" (.ref pa) ∧ Fld Z h a "com/example/stickler/stickler/assignment/NodeQueue" "offered" "[J" (.ref oa) ∧ Fld Z h a "com/example/stickler/stickler/assignment/NodeQueue" "size" "I" (.int (0 : Int32)) ∧ Fld Z h a "com/example/stickler/stickler/assignment/NodeQueue" "offers" "J" (.long of) ∧ own_Ar Z h ha kh .int H ∧ own_Ar Z h pa kp .int (P.set (xx).toNatClampNeg (.int (-1 : Int32)))
set_option maxRecDepth 65536 in
set_option maxHeartbeats 40000000 in
theorem own_rmpo1 (l : Launch) (Z : State) (a0 : Array Value) (hw : ∀ d ∈ tables_1, d.before a0 Z = true) (ws : List Jvm.Cond) (a : Addr) (da : Addr) (ha : Addr) (pa : Addr) (oa : Addr) (kd : ClassId) (kh : ClassId) (kp : ClassId) (ko : ClassId) (D : List Value) (H : List Value) (P : List Value) (O : List Value) (of : Int64) (xx : Int32) (h0 : Heap) (n0 : Nat) (Z0 : n0 ≤ h0.size) (P0 : Exa Z h0 a "com/example/stickler/stickler/assignment/NodeQueue") (P1 : Fld Z h0 a "com/example/stickler/stickler/assignment/NodeQueue" "distance" "[J" (.ref da)) (P2 : Fld Z h0 a "com/example/stickler/stickler/assignment/NodeQueue" "heap" "[I" (.ref ha)) (P3 : Fld Z h0 a "com/example/stickler/stickler/assignment/NodeQueue" "place" "[I" (.ref pa)) (P4 : Fld Z h0 a "com/example/stickler/stickler/assignment/NodeQueue" "offered" "[J" (.ref oa)) (P5 : Fld Z h0 a "com/example/stickler/stickler/assignment/NodeQueue" "size" "I" (.int (1 : Int32))) (P6 : Fld Z h0 a "com/example/stickler/stickler/assignment/NodeQueue" "offers" "J" (.long of)) (P7 : own_Ar Z h0 da kd .long D) (P8 : own_Ar Z h0 ha kh .int H) (P9 : own_Ar Z h0 pa kp .int P) (P10 : own_Ar Z h0 oa ko .long O) (G_a : n0 ≤ a) (G_ha : n0 ≤ ha) (G_pa : n0 ≤ pa) (NE_a_da : a ≠ da) (NE_a_ha : a ≠ ha) (NE_a_pa : a ≠ pa) (NE_a_oa : a ≠ oa) (NE_da_ha : da ≠ ha) (NE_da_pa : da ≠ pa) (NE_da_oa : da ≠ oa) (NE_ha_pa : ha ≠ pa) (NE_ha_oa : ha ≠ oa) (NE_pa_oa : pa ≠ oa) (h0v : H[0]? = some (.int xx)) (hx0 : ¬ xx < (0 : Int32)) (hxP : (xx).toNatClampNeg < P.length) :
    MetFree l own_y9 (head1 (Jvm.Cond.code own_y9 prog_8_method_6_code 2 (some .int) :: ws) ({ frames := 0, cells := 0, slots := 0, locals := 0 } : Room)) (fun az Uz => az = #[(.ref a)] ∧ Z.Warmed39 Uz.vm ∧ Uz.heap = h0) (fun _ _ _ _ _ => True) (fun _ U o U' => ∃ v L, o = .returned v ∧ own_Qpo1 Z a da ha pa oa kd kh kp ko D H P O of xx h0 n0 v U'.heap L ∧ FrameEnd U o U' L ({ frames := 0, cells := 0, slots := 0, locals := 0 } : Room).cells ({ frames := 0, cells := 0, slots := 0, locals := 0 } : Room).slots) := by
  refine MetFree.of_bodySF own_pf_po1 hisR ?_
  intro p e s m args below meth c s₁ Bd hml0 hP hK
  obtain ⟨rfl, hZ, hh⟩ := hP
  have hx := Bd.exec
  have hby := Bd.bytes
  have hml : c.maxLocals = 2 := hml0
  have hown : s.vm.findClass "com/example/stickler/stickler/assignment/NodeQueue" = some m.cls := findClass_of_methodNamed Bd.named
  have hnm := (name_of_methodNamed Bd.named Bd.method).1
  have hlk : meth.locks = false := BodyLoose.notSynchronized Bd
  have hret := Bd.returns
  have X0 : Stand p l e ({ frames := 0, cells := 0, slots := 0, locals := 0 } : Room) s m #[(.ref a)] below meth c s₁ [] 0 0 := Stand.of_body Bd
  have e0 : s₁.heap = h0 := by rw [← hh, Bd.state]; rfl
  have N0 := Fr.nil n0
  show own_E p e below (own_K s (own_Qpo1 Z a da ha pa oa kd kh kp ko D H P O of xx h0 n0) ({ frames := 0, cells := 0, slots := 0, locals := 0 } : Room).cells ({ frames := 0, cells := 0, slots := 0, locals := 0 } : Room).slots) s₁ (entryFrame m #[(.ref a)] 2)
  refine own_S (mkF m 0 #[rv a, .unset] []) (fun _ k => castTop (own_ef_po1 m (a)) k) ?_
  refine own_S (mkF m 1 #[rv a, .unset] [(.ref a)]) (fun _ k => XS.aloadN X0.here hx rfl (hb hby d10_0) rfl rfl k) ?_
  obtain ⟨T1, X1, e1, st1⟩ := getF X0 hx hZ hown (host := "") (Or.inl (own_g hw (i := 13) rfl)) Via.refl e0 P2 (g := (mkF m 1 #[rv a, .unset] [(.ref a)])) rfl rfl (hb hby d10_1)
  refine own_S (mkF m 4 #[rv a, .unset] [(.ref ha)]) st1 ?_
  refine own_S (mkF m 5 #[rv a, .unset] [(.int 0), (.ref ha)]) (fun _ k => XS.iconst X1.here hx rfl (hb hby d10_4) k) ?_
  refine own_S (mkF m 6 #[rv a, .unset] [(.int xx)]) (fun _ k => own_ldI (j := (0 : Int32)) (v := (.int xx)) X1 hx hZ e1 P8 (by decide) h0v (g := (mkF m 5 #[rv a, .unset] [(.int 0), (.ref ha)])) rfl rfl (hb hby d10_5) _ k) ?_
  refine own_S (mkF m 7 #[rv a, iv xx] []) (fun _ k => XS.istoreN X1.here hx rfl (hb hby d10_6) rfl (l' := #[rv a, iv xx]) rfl k) ?_
  refine own_S (mkF m 8 #[rv a, iv xx] [(.ref a)]) (fun _ k => XS.aloadN X1.here hx rfl (hb hby d10_7) rfl rfl k) ?_
  obtain ⟨T2, X2, e2, st2⟩ := getF X1 hx hZ hown (host := "") (Or.inl (own_g hw (i := 15) rfl)) Via.refl e1 P3 (g := (mkF m 8 #[rv a, iv xx] [(.ref a)])) rfl rfl (hb hby d10_8)
  refine own_S (mkF m 11 #[rv a, iv xx] [(.ref pa)]) st2 ?_
  refine own_S (mkF m 12 #[rv a, iv xx] [(.int xx), (.ref pa)]) (fun _ k => XS.iloadN X2.here hx rfl (hb hby d10_11) rfl k) ?_
  refine own_S (mkF m 13 #[rv a, iv xx] [(.int (-1)), (.int xx), (.ref pa)]) (fun _ k => XS.iconst X2.here hx rfl (hb hby d10_12) k) ?_
  obtain ⟨T3, h3, X3, e3, W3, AR3, st3⟩ := own_stI (j := xx) X2 hx hZ e2 P9 hx0 hxP (g := (mkF m 13 #[rv a, iv xx] [(.int (-1)), (.int xx), (.ref pa)])) rfl rfl (hb hby d10_13)
  refine own_S (mkF m 14 #[rv a, iv xx] []) st3 ?_
  have F4 := P0.wr W3
  have F5 := P1.other W3 (Or.inl NE_a_pa)
  have F6 := P2.other W3 (Or.inl NE_a_pa)
  have F7 := P3.other W3 (Or.inl NE_a_pa)
  have F8 := P4.other W3 (Or.inl NE_a_pa)
  have F9 := P5.other W3 (Or.inl NE_a_pa)
  have F10 := P6.other W3 (Or.inl NE_a_pa)
  have F11 := P7.other W3 NE_da_pa
  have F12 := P8.other W3 NE_ha_pa
  have F13 := P10.other W3 (Ne.symm NE_pa_oa)
  have F14 : own_Ar Z h3 pa kp .int (P.set (xx).toNatClampNeg (.int (-1 : Int32))) := AR3
  have N3 := Fr.snoc X3 N0 G_pa
  have Z3 : n0 ≤ h3.size := by rw [Wr.size W3]; exact Z0
  have K3 : Keep h0 h3 [a, ha, pa] := (Keep.refl _ _).wr W3 (Or.inl (List.mem_of_getElem? (i := 2) rfl))
  refine own_S (mkF m 15 #[rv a, iv xx] [(.ref a)]) (fun _ k => XS.aloadN X3.here hx rfl (hb hby d10_14) rfl rfl k) ?_
  refine own_S (mkF m 16 #[rv a, iv xx] [(.ref a), (.ref a)]) (fun _ k => XS.dup X3.here hx rfl (hb hby d10_15) rfl rfl k) ?_
  obtain ⟨T15, X15, e15, st15⟩ := getF X3 hx hZ hown (host := "") (Or.inl (own_g hw (i := 28) rfl)) Via.refl e3 F9 (g := (mkF m 16 #[rv a, iv xx] [(.ref a), (.ref a)])) rfl rfl (hb hby d10_16)
  refine own_S (mkF m 19 #[rv a, iv xx] [(.int 1), (.ref a)]) st15 ?_
  refine own_S (mkF m 20 #[rv a, iv xx] [(.int 1), (.int 1), (.ref a)]) (fun _ k => XS.iconst X15.here hx rfl (hb hby d10_19) k) ?_
  refine own_S (mkF m 21 #[rv a, iv xx] [(.int 0), (.ref a)]) (fun _ k => XS.isub X15.here hx rfl (hb hby d10_20) rfl k) ?_
  refine own_S (mkF m 22 #[rv a, iv xx] [(.int 0), (.ref a), (.int 0)]) (fun _ k => XS.dupX1 X15.here hx rfl (hb hby d10_21) rfl rfl rfl k) ?_
  obtain ⟨T16, h16, X16, e16, W16, st16⟩ := putF X15 hx hZ hown (host := "") (Or.inl (own_g hw (i := 28) rfl)) Via.refl e15 F9 F4 (Or.inl (own_g hw (i := 29) rfl)) (own_g hw (i := 2) rfl) (ty := .int) (by decide) rfl rfl (g := (mkF m 22 #[rv a, iv xx] [(.int 0), (.ref a), (.int 0)])) rfl rfl (hb hby d10_22)
  refine own_S (mkF m 25 #[rv a, iv xx] [(.int 0)]) st16 ?_
  have F17 := F4.wr W16
  have F18 := F5.other W16 (Or.inr (slot_ne (Or.inr (own_g hw (i := 11) rfl)) (Or.inl (own_g hw (i := 29) rfl)) (by decide) (t := (.array .long)) (t' := .int) (by decide) (by decide)))
  have F19 := F6.other W16 (Or.inr (slot_ne (Or.inr (own_g hw (i := 14) rfl)) (Or.inl (own_g hw (i := 29) rfl)) (by decide) (t := (.array .int)) (t' := .int) (by decide) (by decide)))
  have F20 := F7.other W16 (Or.inr (slot_ne (Or.inr (own_g hw (i := 16) rfl)) (Or.inl (own_g hw (i := 29) rfl)) (by decide) (t := (.array .int)) (t' := .int) (by decide) (by decide)))
  have F21 := F8.other W16 (Or.inr (slot_ne (Or.inr (own_g hw (i := 18) rfl)) (Or.inl (own_g hw (i := 29) rfl)) (by decide) (t := (.array .long)) (t' := .int) (by decide) (by decide)))
  have F22 := F9.same W16
  have F23 := F10.other W16 (Or.inr (slot_ne (Or.inl (own_g hw (i := 42) rfl)) (Or.inl (own_g hw (i := 29) rfl)) (by decide) (t := .long) (t' := .int) (by decide) (by decide)))
  have F24 := F11.other W16 (Ne.symm NE_a_da)
  have F25 := F12.other W16 (Ne.symm NE_a_ha)
  have F26 := F13.other W16 (Ne.symm NE_a_oa)
  have F27 := F14.other W16 (Ne.symm NE_a_pa)
  have N16 := Fr.snoc X16 N3 G_a
  have Z16 : n0 ≤ h16.size := by rw [Wr.size W16]; exact Z3
  have K16 : Keep h0 h16 [a, ha, pa] := K3.wr W16 (Or.inl (List.mem_of_getElem? (i := 0) rfl))
  have hc28 : ¬ ((0 : Int32) < (0 : Int32)) := by decide
  refine own_S (mkF m 48 #[rv a, iv xx] []) (fun _ k => XS.ifYes X16.here hx rfl (pc0 := 25) (pc' := 48) rfl (hb hby d10_25) rfl ((if0 _ _).trans (flt hc28).2.2.2) (by decide) (by decide) k) ?_
  refine own_S (mkF m 49 #[rv a, iv xx] [(.int xx)]) (fun _ k => XS.iloadN X16.here hx rfl (hb hby d10_48) rfl k) ?_
  exact own_ret X16 hx hlk (t := .int) hret rfl (Or.inl ⟨rfl, Or.inl rfl, _, rfl⟩) (hb hby d10_49) (by rw [e16]; exact ⟨rfl, N16, K16, F17, F18, F19, F20, F21, F22, F23, F25, F27⟩) (by decide) (by decide)
theorem d10_28 : decode prog_8_method_6_code 28 = .ok (.aload_n 0, 1) := by decide +kernel
theorem d10_29 : decode prog_8_method_6_code 29 = .ok (.getfield 13, 3) := by decide +kernel
theorem d10_32 : decode prog_8_method_6_code 32 = .ok (.iconst 0, 1) := by decide +kernel
theorem d10_33 : decode prog_8_method_6_code 33 = .ok (.aload_n 0, 1) := by decide +kernel
theorem d10_34 : decode prog_8_method_6_code 34 = .ok (.getfield 13, 3) := by decide +kernel
theorem d10_37 : decode prog_8_method_6_code 37 = .ok (.aload_n 0, 1) := by decide +kernel
theorem d10_38 : decode prog_8_method_6_code 38 = .ok (.getfield 29, 3) := by decide +kernel
theorem d10_41 : decode prog_8_method_6_code 41 = .ok (.iaload, 1) := by decide +kernel
theorem d10_42 : decode prog_8_method_6_code 42 = .ok (.iastore, 1) := by decide +kernel
theorem d10_43 : decode prog_8_method_6_code 43 = .ok (.aload_n 0, 1) := by decide +kernel
theorem d10_44 : decode prog_8_method_6_code 44 = .ok (.iconst 0, 1) := by decide +kernel
theorem d10_45 : decode prog_8_method_6_code 45 = .ok (.invokevirtual 45, 3) := by decide +kernel
theorem own_pf_po2 : plainFor own_y9 = true := by first | exact plainFor_of_name (show plainName "com/example/stickler/stickler/assignment/NodeQueue" = true by first | (simp [plainName, overriddenIn]; done) | decide +kernel) | decide +kernel
theorem own_ef_po2 (m : MethodId) (y0 : Addr) : entryFrame m #[(.ref y0)] 2 = mkF m 0 #[rv y0, .unset] [] := by first | (simp [entryFrame, mkF, argsToLocals, Value.category]; done) | rfl
def own_Qpo2 (Z : State) (a : Addr) (da : Addr) (ha : Addr) (pa : Addr) (oa : Addr) (kd : ClassId) (kh : ClassId) (kp : ClassId) (ko : ClassId) (D : List Value) (H : List Value) (P : List Value) (O : List Value) (of : Int64) (xx : Int32) (yy : Int32) (h0 : Heap) (n0 : Nat) (v : Option Value) (h : Heap) (L : List Loc) : Prop := v = some (.int xx) ∧ Fr n0 L ∧ Keep h0 h [a, ha, pa] ∧ Exa Z h a "com/example/stickler/stickler/assignment/NodeQueue" ∧ Fld Z h a "com/example/stickler/stickler/assignment/NodeQueue" "distance" "[J" (.ref da) ∧ Fld Z h a "com/example/stickler/stickler/assignment/NodeQueue" "heap" "[I" (.ref ha) ∧ Fld Z h a "com/example/stickler/stickler/assignment/NodeQueue" "place" "[I" (.ref pa) ∧ Fld Z h a "com/example/stickler/stickler/assignment/NodeQueue" "offered" "[J" (.ref oa) ∧ Fld Z h a "com/example/stickler/stickler/assignment/NodeQueue" "size" "I" (.int (1 : Int32)) ∧ Fld Z h a "com/example/stickler/stickler/assignment/NodeQueue" "offers" "J" (.long of) ∧ own_Ar Z h ha kh .int ((H.set 0 (.int yy)).set 0 (.int yy)) ∧ own_Ar Z h pa kp .int ((P.set (xx).toNatClampNeg (.int (-1 : Int32))).set (yy).toNatClampNeg (.int (0 : Int32)))
set_option maxRecDepth 65536 in
set_option maxHeartbeats 40000000 in
theorem own_rmpo2 (l : Launch) (Z : State) (a0 : Array Value) (hw : ∀ d ∈ tables_1, d.before a0 Z = true) (ws : List Jvm.Cond) (a : Addr) (da : Addr) (ha : Addr) (pa : Addr) (oa : Addr) (kd : ClassId) (kh : ClassId) (kp : ClassId) (ko : ClassId) (D : List Value) (H : List Value) (P : List Value) (O : List Value) (of : Int64) (xx : Int32) (yy : Int32) (h0 : Heap) (n0 : Nat) (Z0 : n0 ≤ h0.size) (P0 : Exa Z h0 a "com/example/stickler/stickler/assignment/NodeQueue") (P1 : Fld Z h0 a "com/example/stickler/stickler/assignment/NodeQueue" "distance" "[J" (.ref da)) (P2 : Fld Z h0 a "com/example/stickler/stickler/assignment/NodeQueue" "heap" "[I" (.ref ha)) (P3 : Fld Z h0 a "com/example/stickler/stickler/assignment/NodeQueue" "place" "[I" (.ref pa)) (P4 : Fld Z h0 a "com/example/stickler/stickler/assignment/NodeQueue" "offered" "[J" (.ref oa)) (P5 : Fld Z h0 a "com/example/stickler/stickler/assignment/NodeQueue" "size" "I" (.int (2 : Int32))) (P6 : Fld Z h0 a "com/example/stickler/stickler/assignment/NodeQueue" "offers" "J" (.long of)) (P7 : own_Ar Z h0 da kd .long D) (P8 : own_Ar Z h0 ha kh .int H) (P9 : own_Ar Z h0 pa kp .int P) (P10 : own_Ar Z h0 oa ko .long O) (G_a : n0 ≤ a) (G_ha : n0 ≤ ha) (G_pa : n0 ≤ pa) (NE_a_da : a ≠ da) (NE_a_ha : a ≠ ha) (NE_a_pa : a ≠ pa) (NE_a_oa : a ≠ oa) (NE_da_ha : da ≠ ha) (NE_da_pa : da ≠ pa) (NE_da_oa : da ≠ oa) (NE_ha_pa : ha ≠ pa) (NE_ha_oa : ha ≠ oa) (NE_pa_oa : pa ≠ oa) (h0v : H[0]? = some (.int xx)) (hx0 : ¬ xx < (0 : Int32)) (hxP : (xx).toNatClampNeg < P.length) (h1v : H[1]? = some (.int yy)) (hy0 : ¬ yy < (0 : Int32)) (hyP : (yy).toNatClampNeg < P.length) :
    MetFree l own_y9 (head1 (Jvm.Cond.code own_y9 prog_8_method_6_code 2 (some .int) :: ws) ({ frames := 2, cells := 0, slots := 0, locals := 29 } : Room)) (fun az Uz => az = #[(.ref a)] ∧ Z.Warmed39 Uz.vm ∧ Uz.heap = h0) (fun _ _ _ _ _ => True) (fun _ U o U' => ∃ v L, o = .returned v ∧ own_Qpo2 Z a da ha pa oa kd kh kp ko D H P O of xx yy h0 n0 v U'.heap L ∧ FrameEnd U o U' L ({ frames := 2, cells := 0, slots := 0, locals := 29 } : Room).cells ({ frames := 2, cells := 0, slots := 0, locals := 29 } : Room).slots) := by
  refine MetFree.of_bodySF own_pf_po2 hisR ?_
  intro p e s m args below meth c s₁ Bd hml0 hP hK
  obtain ⟨rfl, hZ, hh⟩ := hP
  have hx := Bd.exec
  have hby := Bd.bytes
  have hml : c.maxLocals = 2 := hml0
  have hown : s.vm.findClass "com/example/stickler/stickler/assignment/NodeQueue" = some m.cls := findClass_of_methodNamed Bd.named
  have hnm := (name_of_methodNamed Bd.named Bd.method).1
  have hlk : meth.locks = false := BodyLoose.notSynchronized Bd
  have hret := Bd.returns
  have X0 : Stand p l e ({ frames := 2, cells := 0, slots := 0, locals := 29 } : Room) s m #[(.ref a)] below meth c s₁ [] 0 0 := Stand.of_body Bd
  have e0 : s₁.heap = h0 := by rw [← hh, Bd.state]; rfl
  have N0 := Fr.nil n0
  show own_E p e below (own_K s (own_Qpo2 Z a da ha pa oa kd kh kp ko D H P O of xx yy h0 n0) ({ frames := 2, cells := 0, slots := 0, locals := 29 } : Room).cells ({ frames := 2, cells := 0, slots := 0, locals := 29 } : Room).slots) s₁ (entryFrame m #[(.ref a)] 2)
  refine own_S (mkF m 0 #[rv a, .unset] []) (fun _ k => castTop (own_ef_po2 m (a)) k) ?_
  refine own_S (mkF m 1 #[rv a, .unset] [(.ref a)]) (fun _ k => XS.aloadN X0.here hx rfl (hb hby d10_0) rfl rfl k) ?_
  obtain ⟨T1, X1, e1, st1⟩ := getF X0 hx hZ hown (host := "") (Or.inl (own_g hw (i := 13) rfl)) Via.refl e0 P2 (g := (mkF m 1 #[rv a, .unset] [(.ref a)])) rfl rfl (hb hby d10_1)
  refine own_S (mkF m 4 #[rv a, .unset] [(.ref ha)]) st1 ?_
  refine own_S (mkF m 5 #[rv a, .unset] [(.int 0), (.ref ha)]) (fun _ k => XS.iconst X1.here hx rfl (hb hby d10_4) k) ?_
  refine own_S (mkF m 6 #[rv a, .unset] [(.int xx)]) (fun _ k => own_ldI (j := (0 : Int32)) (v := (.int xx)) X1 hx hZ e1 P8 (by decide) h0v (g := (mkF m 5 #[rv a, .unset] [(.int 0), (.ref ha)])) rfl rfl (hb hby d10_5) _ k) ?_
  refine own_S (mkF m 7 #[rv a, iv xx] []) (fun _ k => XS.istoreN X1.here hx rfl (hb hby d10_6) rfl (l' := #[rv a, iv xx]) rfl k) ?_
  refine own_S (mkF m 8 #[rv a, iv xx] [(.ref a)]) (fun _ k => XS.aloadN X1.here hx rfl (hb hby d10_7) rfl rfl k) ?_
  obtain ⟨T2, X2, e2, st2⟩ := getF X1 hx hZ hown (host := "") (Or.inl (own_g hw (i := 15) rfl)) Via.refl e1 P3 (g := (mkF m 8 #[rv a, iv xx] [(.ref a)])) rfl rfl (hb hby d10_8)
  refine own_S (mkF m 11 #[rv a, iv xx] [(.ref pa)]) st2 ?_
  refine own_S (mkF m 12 #[rv a, iv xx] [(.int xx), (.ref pa)]) (fun _ k => XS.iloadN X2.here hx rfl (hb hby d10_11) rfl k) ?_
  refine own_S (mkF m 13 #[rv a, iv xx] [(.int (-1)), (.int xx), (.ref pa)]) (fun _ k => XS.iconst X2.here hx rfl (hb hby d10_12) k) ?_
  obtain ⟨T3, h3, X3, e3, W3, AR3, st3⟩ := own_stI (j := xx) X2 hx hZ e2 P9 hx0 hxP (g := (mkF m 13 #[rv a, iv xx] [(.int (-1)), (.int xx), (.ref pa)])) rfl rfl (hb hby d10_13)
  refine own_S (mkF m 14 #[rv a, iv xx] []) st3 ?_
  have F4 := P0.wr W3
  have F5 := P1.other W3 (Or.inl NE_a_pa)
  have F6 := P2.other W3 (Or.inl NE_a_pa)
  have F7 := P3.other W3 (Or.inl NE_a_pa)
  have F8 := P4.other W3 (Or.inl NE_a_pa)
  have F9 := P5.other W3 (Or.inl NE_a_pa)
  have F10 := P6.other W3 (Or.inl NE_a_pa)
  have F11 := P7.other W3 NE_da_pa
  have F12 := P8.other W3 NE_ha_pa
  have F13 := P10.other W3 (Ne.symm NE_pa_oa)
  have F14 : own_Ar Z h3 pa kp .int (P.set (xx).toNatClampNeg (.int (-1 : Int32))) := AR3
  have N3 := Fr.snoc X3 N0 G_pa
  have Z3 : n0 ≤ h3.size := by rw [Wr.size W3]; exact Z0
  have K3 : Keep h0 h3 [a, ha, pa] := (Keep.refl _ _).wr W3 (Or.inl (List.mem_of_getElem? (i := 2) rfl))
  refine own_S (mkF m 15 #[rv a, iv xx] [(.ref a)]) (fun _ k => XS.aloadN X3.here hx rfl (hb hby d10_14) rfl rfl k) ?_
  refine own_S (mkF m 16 #[rv a, iv xx] [(.ref a), (.ref a)]) (fun _ k => XS.dup X3.here hx rfl (hb hby d10_15) rfl rfl k) ?_
  obtain ⟨T15, X15, e15, st15⟩ := getF X3 hx hZ hown (host := "") (Or.inl (own_g hw (i := 28) rfl)) Via.refl e3 F9 (g := (mkF m 16 #[rv a, iv xx] [(.ref a), (.ref a)])) rfl rfl (hb hby d10_16)
  refine own_S (mkF m 19 #[rv a, iv xx] [(.int 2), (.ref a)]) st15 ?_
  refine own_S (mkF m 20 #[rv a, iv xx] [(.int 1), (.int 2), (.ref a)]) (fun _ k => XS.iconst X15.here hx rfl (hb hby d10_19) k) ?_
  refine own_S (mkF m 21 #[rv a, iv xx] [(.int 1), (.ref a)]) (fun _ k => XS.isub X15.here hx rfl (hb hby d10_20) rfl k) ?_
  refine own_S (mkF m 22 #[rv a, iv xx] [(.int 1), (.ref a), (.int 1)]) (fun _ k => XS.dupX1 X15.here hx rfl (hb hby d10_21) rfl rfl rfl k) ?_
  obtain ⟨T16, h16, X16, e16, W16, st16⟩ := putF X15 hx hZ hown (host := "") (Or.inl (own_g hw (i := 28) rfl)) Via.refl e15 F9 F4 (Or.inl (own_g hw (i := 29) rfl)) (own_g hw (i := 2) rfl) (ty := .int) (by decide) rfl rfl (g := (mkF m 22 #[rv a, iv xx] [(.int 1), (.ref a), (.int 1)])) rfl rfl (hb hby d10_22)
  refine own_S (mkF m 25 #[rv a, iv xx] [(.int 1)]) st16 ?_
  have F17 := F4.wr W16
  have F18 := F5.other W16 (Or.inr (slot_ne (Or.inr (own_g hw (i := 11) rfl)) (Or.inl (own_g hw (i := 29) rfl)) (by decide) (t := (.array .long)) (t' := .int) (by decide) (by decide)))
  have F19 := F6.other W16 (Or.inr (slot_ne (Or.inr (own_g hw (i := 14) rfl)) (Or.inl (own_g hw (i := 29) rfl)) (by decide) (t := (.array .int)) (t' := .int) (by decide) (by decide)))
  have F20 := F7.other W16 (Or.inr (slot_ne (Or.inr (own_g hw (i := 16) rfl)) (Or.inl (own_g hw (i := 29) rfl)) (by decide) (t := (.array .int)) (t' := .int) (by decide) (by decide)))
  have F21 := F8.other W16 (Or.inr (slot_ne (Or.inr (own_g hw (i := 18) rfl)) (Or.inl (own_g hw (i := 29) rfl)) (by decide) (t := (.array .long)) (t' := .int) (by decide) (by decide)))
  have F22 := F9.same W16
  have F23 := F10.other W16 (Or.inr (slot_ne (Or.inl (own_g hw (i := 42) rfl)) (Or.inl (own_g hw (i := 29) rfl)) (by decide) (t := .long) (t' := .int) (by decide) (by decide)))
  have F24 := F11.other W16 (Ne.symm NE_a_da)
  have F25 := F12.other W16 (Ne.symm NE_a_ha)
  have F26 := F13.other W16 (Ne.symm NE_a_oa)
  have F27 := F14.other W16 (Ne.symm NE_a_pa)
  have N16 := Fr.snoc X16 N3 G_a
  have Z16 : n0 ≤ h16.size := by rw [Wr.size W16]; exact Z3
  have K16 : Keep h0 h16 [a, ha, pa] := K3.wr W16 (Or.inl (List.mem_of_getElem? (i := 0) rfl))
  have hc28 : (0 : Int32) < (1 : Int32) := by decide
  refine own_S (mkF m 28 #[rv a, iv xx] []) (fun _ k => XS.ifNo X16.here hx rfl (hb hby d10_25) rfl ((if0 _ _).trans (tlt hc28).2.2.2) k) ?_
  refine own_S (mkF m 29 #[rv a, iv xx] [(.ref a)]) (fun _ k => XS.aloadN X16.here hx rfl (hb hby d10_28) rfl rfl k) ?_
  obtain ⟨T29, X29, e29, st29⟩ := getF X16 hx hZ hown (host := "") (Or.inl (own_g hw (i := 13) rfl)) Via.refl e16 F19 (g := (mkF m 29 #[rv a, iv xx] [(.ref a)])) rfl rfl (hb hby d10_29)
  refine own_S (mkF m 32 #[rv a, iv xx] [(.ref ha)]) st29 ?_
  refine own_S (mkF m 33 #[rv a, iv xx] [(.int 0), (.ref ha)]) (fun _ k => XS.iconst X29.here hx rfl (hb hby d10_32) k) ?_
  refine own_S (mkF m 34 #[rv a, iv xx] [(.ref a), (.int 0), (.ref ha)]) (fun _ k => XS.aloadN X29.here hx rfl (hb hby d10_33) rfl rfl k) ?_
  obtain ⟨T30, X30, e30, st30⟩ := getF X29 hx hZ hown (host := "") (Or.inl (own_g hw (i := 13) rfl)) Via.refl e29 F19 (g := (mkF m 34 #[rv a, iv xx] [(.ref a), (.int 0), (.ref ha)])) rfl rfl (hb hby d10_34)
  refine own_S (mkF m 37 #[rv a, iv xx] [(.ref ha), (.int 0), (.ref ha)]) st30 ?_
  refine own_S (mkF m 38 #[rv a, iv xx] [(.ref a), (.ref ha), (.int 0), (.ref ha)]) (fun _ k => XS.aloadN X30.here hx rfl (hb hby d10_37) rfl rfl k) ?_
  obtain ⟨T31, X31, e31, st31⟩ := getF X30 hx hZ hown (host := "") (Or.inl (own_g hw (i := 28) rfl)) Via.refl e30 F22 (g := (mkF m 38 #[rv a, iv xx] [(.ref a), (.ref ha), (.int 0), (.ref ha)])) rfl rfl (hb hby d10_38)
  refine own_S (mkF m 41 #[rv a, iv xx] [(.int 1), (.ref ha), (.int 0), (.ref ha)]) st31 ?_
  refine own_S (mkF m 42 #[rv a, iv xx] [(.int yy), (.int 0), (.ref ha)]) (fun _ k => own_ldI (j := 1) (v := (.int yy)) X31 hx hZ e31 F25 (by decide) h1v (g := (mkF m 41 #[rv a, iv xx] [(.int 1), (.ref ha), (.int 0), (.ref ha)])) rfl rfl (hb hby d10_41) _ k) ?_
  obtain ⟨T32, h32, X32, e32, W32, AR32, st32⟩ := own_stI (j := (0 : Int32)) X31 hx hZ e31 F25 (by decide) (own_lt_of h0v) (g := (mkF m 42 #[rv a, iv xx] [(.int yy), (.int 0), (.ref ha)])) rfl rfl (hb hby d10_42)
  refine own_S (mkF m 43 #[rv a, iv xx] []) st32 ?_
  have F33 := F17.wr W32
  have F34 := F18.other W32 (Or.inl NE_a_ha)
  have F35 := F19.other W32 (Or.inl NE_a_ha)
  have F36 := F20.other W32 (Or.inl NE_a_ha)
  have F37 := F21.other W32 (Or.inl NE_a_ha)
  have F38 := F22.other W32 (Or.inl NE_a_ha)
  have F39 := F23.other W32 (Or.inl NE_a_ha)
  have F40 := F24.other W32 NE_da_ha
  have F41 := F26.other W32 (Ne.symm NE_ha_oa)
  have F42 := F27.other W32 (Ne.symm NE_ha_pa)
  have F43 : own_Ar Z h32 ha kh .int (H.set 0 (.int yy)) := AR32
  have N32 := Fr.snoc X32 N16 G_ha
  have Z32 : n0 ≤ h32.size := by rw [Wr.size W32]; exact Z16
  have K32 : Keep h0 h32 [a, ha, pa] := K16.wr W32 (Or.inl (List.mem_of_getElem? (i := 1) rfl))
  refine own_S (mkF m 44 #[rv a, iv xx] [(.ref a)]) (fun _ k => XS.aloadN X32.here hx rfl (hb hby d10_43) rfl rfl k) ?_
  refine own_S (mkF m 45 #[rv a, iv xx] [(.int 0), (.ref a)]) (fun _ k => XS.iconst X32.here hx rfl (hb hby d10_44) k) ?_
  obtain ⟨cq44, q44a, q44b⟩ := Exa.cell F33
  obtain ⟨_, _, ⟨T44, L44, k44, n44⟩, -, X44, ⟨Lc44, hQ44, l44, y44, z44⟩, st44⟩ := X32.privateBack hx (y := own_y8) hown (mvT hZ (own_g hw (i := 60) rfl)) (mvT hZ (own_g hw (i := 61) rfl)) (own_selP (mvT hZ (own_g hw (i := 2) rfl)) (Cond.privateMethod_at (mvP hZ (own_g hw (i := 62) rfl) (args := #[]))) (mvT hZ (own_g hw (i := 61) rfl)) (by decide)) (Cond.privateMethod_at (mvP hZ (own_g hw (i := 62) rfl) (args := #[]))) (mvT hZ (own_g hw (i := 63) rfl)) (by decide) (backOf (W := 0) (own_rmsd l Z a0 hw [] (a) (ha) (pa) (kh) (kp) ((H.set 0 (.int yy))) ((P.set (xx).toNatClampNeg (.int (-1 : Int32)))) (yy) h32 n0 Z32 F33 F35 F36 F38 F43 F42 G_ha G_pa NE_a_ha NE_a_pa NE_ha_pa (own_set_at (own_lt_of h0v)) hy0 (by rw [List.length_set]; exact hyP)) hZ (own_g hw (i := 63) rfl) (own_g hw (i := 3) rfl) (by decide) (by decide)) (g := (mkF m 45 #[rv a, iv xx] [(.int 0), (.ref a)])) rfl (by rw [hml]; rfl) (Steps.refl _) (a := a) (by rw [e32]; exact q44a) q44b (argsL := [(.int 0)]) (rest := []) (lenOf own_pd__I_V rfl) rfl (by show 2 * 0 + _ ≤ _; exact Nat.le_of_eq rfl) (hb hby d10_45) (fun _ _ => ⟨rfl, e32, (by decide : 0 + 0 ≤ _), (by decide : 0 + 0 ≤ _)⟩)
  dsimp only [Pt.U, Pt.locs, Pt.cells, Pt.slots] at X44 l44 y44 z44 st44 hQ44
  subst l44 y44 z44
  obtain ⟨rfl, N44q, K44q, F45, F46⟩ := hQ44
  have N44 := Fr.app N32 N44q
  refine own_S (mkF m 48 #[rv a, iv xx] []) (fun _ k => st44.trans k) ?_
  have K44 : Keep h0 T44.heap [a, ha, pa] := K32.trans K44q (allS (Or.inl (List.mem_of_getElem? (i := 1) rfl)) (allS (Or.inl (List.mem_of_getElem? (i := 2) rfl)) all0))
  have F47 := F33.keep K44q
  have F48 := F34.keep K44q (ninS NE_a_ha (ninS NE_a_pa nin0))
  have F49 := F35.keep K44q (ninS NE_a_ha (ninS NE_a_pa nin0))
  have F50 := F36.keep K44q (ninS NE_a_ha (ninS NE_a_pa nin0))
  have F51 := F37.keep K44q (ninS NE_a_ha (ninS NE_a_pa nin0))
  have F52 := F38.keep K44q (ninS NE_a_ha (ninS NE_a_pa nin0))
  have F53 := F39.keep K44q (ninS NE_a_ha (ninS NE_a_pa nin0))
  have F54 := F40.keep K44q (ninS NE_da_ha (ninS NE_da_pa nin0))
  have F55 := F41.keep K44q (ninS (Ne.symm NE_ha_oa) (ninS (Ne.symm NE_pa_oa) nin0))
  have Z44 : n0 ≤ T44.heap.size := Nat.le_trans Z32 K44q.1
  refine own_S (mkF m 49 #[rv a, iv xx] [(.int xx)]) (fun _ k => XS.iloadN X44.here hx rfl (hb hby d10_48) rfl k) ?_
  exact own_ret X44 hx hlk (t := .int) hret rfl (Or.inl ⟨rfl, Or.inl rfl, _, rfl⟩) (hb hby d10_49) ⟨rfl, N44, K44, F47, F48, F49, F50, F51, F52, F53, F45, F46⟩ (by decide) (by decide)
theorem own_pd___Z : parseMethodDescriptor "()Z" = some ⟨[], (some .boolean)⟩ := by decide +kernel
theorem own_pd___I : parseMethodDescriptor "()I" = some ⟨[], (some .int)⟩ := by decide +kernel
def own_Qlaw (Z : State) (mk : Int32) (xi : Int32) (yi : Int32) (d0 : Int64) (d1 : Int64) (d2 : Int64) (h0 : Heap) (n0 : Nat) (v : Option Value) (h : Heap) (L : List Loc) : Prop := v = some (.int 1) ∧ Fr n0 L ∧ True
set_option maxRecDepth 65536 in
set_option maxHeartbeats 40000000 in
theorem own_tail (l : Launch) (Z : State) (a0 : Array Value) (hw : ∀ d ∈ tables_1, d.before a0 Z = true) (mk : Int32) (xi : Int32) (yi : Int32) (d0 : Int64) (d1 : Int64) (d2 : Int64) (h0 : Heap) (n0 : Nat) (p : Program) (e : Env) (s : State) (m : MethodId) (args : Array Value) (below : List Frame) (meth : Method) (c : Code) (T0 : State) (L0 : List Loc) (hh : Heap) (a : Addr) (da : Addr) (ha : Addr) (pa : Addr) (oa : Addr) (kd : ClassId) (kh : ClassId) (kp : ClassId) (ko : ClassId) (g0 : Value) (g1 : Value) (g2 : Value) (o0 : Int64) (o1 : Int64) (o2 : Int64) (of : Int64) (hx : p.tables.exec = Jvm.exec) (hby : c.code = code) (hml : c.maxLocals = 17) (hZ : Z.Warmed39 s.vm) (hown : s.vm.findClass "com/example/stickler/stickler/assignment/NodeQueueClearPinLaw" = some m.cls) (hlk : meth.locks = false) (hret : meth.sig.returnType = some .boolean) (X0 : Stand p l e room_1 s m args below meth c T0 L0 5 18) (e0 : T0.heap = hh) (N0 : Fr n0 L0) (Z0 : n0 ≤ hh.size) (P0 : Exa Z hh a "com/example/stickler/stickler/assignment/NodeQueue") (P1 : Fld Z hh a "com/example/stickler/stickler/assignment/NodeQueue" "distance" "[J" (.ref da)) (P2 : Fld Z hh a "com/example/stickler/stickler/assignment/NodeQueue" "heap" "[I" (.ref ha)) (P3 : Fld Z hh a "com/example/stickler/stickler/assignment/NodeQueue" "place" "[I" (.ref pa)) (P4 : Fld Z hh a "com/example/stickler/stickler/assignment/NodeQueue" "offered" "[J" (.ref oa)) (P5 : Fld Z hh a "com/example/stickler/stickler/assignment/NodeQueue" "size" "I" (.int (0 : Int32))) (P6 : Fld Z hh a "com/example/stickler/stickler/assignment/NodeQueue" "offers" "J" (.long of)) (P7 : own_Ar Z hh da kd .long [(.long d0), (.long d1), (.long d2)]) (P8 : own_Ar Z hh ha kh .int [g0, g1, g2]) (P9 : own_Ar Z hh pa kp .int [(.int (-1 : Int32)), (.int (-1 : Int32)), (.int (-1 : Int32))]) (P10 : own_Ar Z hh oa ko .long [(.long o0), (.long o1), (.long o2)]) (G_a : n0 ≤ a) (G_ha : n0 ≤ ha) (G_pa : n0 ≤ pa) (G_oa : n0 ≤ oa) (NE_a_da : a ≠ da) (NE_a_ha : a ≠ ha) (NE_a_pa : a ≠ pa) (NE_a_oa : a ≠ oa) (NE_da_ha : da ≠ ha) (NE_da_pa : da ≠ pa) (NE_da_oa : da ≠ oa) (NE_ha_pa : ha ≠ pa) (NE_ha_oa : ha ≠ oa) (NE_pa_oa : pa ≠ oa) (hof : (of + (1 : Int64)) < ((of + (1 : Int64)) + (1 : Int64))) :
    own_E p e below (own_K s (own_Qlaw Z mk xi yi d0 d1 d2 h0 n0) room_1.cells room_1.slots) T0 (mkF m 74 #[iv mk, iv xi, iv yi, .val (.long d0), .second, .val (.long d1), .second, .val (.long d2), .second, rv da, rv a, .unset, .unset, .unset, .unset, .unset, .unset] []) := by
  refine own_S (mkF m 76 #[iv mk, iv xi, iv yi, .val (.long d0), .second, .val (.long d1), .second, .val (.long d2), .second, rv da, rv a, .unset, .unset, .unset, .unset, .unset, .unset] [(.ref a)]) (fun _ k => XS.aload X0.here hx rfl (hb hby at_74) rfl rfl k) ?_
  obtain ⟨cq1, kq1, q1a, q1b, q1c⟩ := isOf hZ e0 P0
  obtain ⟨_, _, ⟨T1, L1, k1, n1⟩, -, X1, ⟨Lc1, hQ1, l1, y1, z1⟩, st1⟩ := X0.virtualBack hx (y := own_y2) (z := own_y2) hown (mvT hZ (own_g hw (i := 30) rfl)) (mvT hZ (own_g hw (i := 31) rfl)) (notFace_of_selects (args := #[]) (mvT hZ (own_g hw (i := 33) rfl))) (mvT hZ (own_g hw (i := 33) rfl)) (mvT hZ (own_g hw (i := 32) rfl)) (by decide) (backOf (W := 0) (own_rmem l Z a0 hw [] (a) hh n0 Z0 P5) hZ (own_g hw (i := 34) rfl) (own_g hw (i := 3) rfl) (by decide) (by decide)) q1a q1c (g := (mkF m 76 #[iv mk, iv xi, iv yi, .val (.long d0), .second, .val (.long d1), .second, .val (.long d2), .second, rv da, rv a, .unset, .unset, .unset, .unset, .unset, .unset] [(.ref a)])) rfl (by rw [hml]; rfl) (Steps.refl _) (argsL := []) (rest := []) (lenOf own_pd___Z rfl) rfl (by show 2 * 0 + _ ≤ _; exact Nat.le_of_eq rfl) (hb hby at_76) (fun _ _ => ⟨rfl, e0, (by decide : 5 + 0 ≤ _), (by decide : 18 + 0 ≤ _)⟩)
  dsimp only [Pt.U, Pt.locs, Pt.cells, Pt.slots] at X1 l1 y1 z1 st1 hQ1
  subst l1 y1 z1
  obtain ⟨rfl, N1q, e1⟩ := hQ1
  have N1 := Fr.app N0 N1q
  refine own_S (mkF m 79 #[iv mk, iv xi, iv yi, .val (.long d0), .second, .val (.long d1), .second, .val (.long d2), .second, rv da, rv a, .unset, .unset, .unset, .unset, .unset, .unset] [(.int 1)]) (fun _ k => st1.trans k) ?_
  have hc2 : ¬ ((1 : Int32) = (0 : Int32)) := by decide
  refine own_S (mkF m 84 #[iv mk, iv xi, iv yi, .val (.long d0), .second, .val (.long d1), .second, .val (.long d2), .second, rv da, rv a, .unset, .unset, .unset, .unset, .unset, .unset] []) (fun _ k => XS.ifYes X1.here hx rfl (pc0 := 79) (pc' := 84) rfl (hb hby at_79) rfl ((if0 _ _).trans (feq hc2).2) (by decide) (by decide) k) ?_
  refine own_S (mkF m 85 #[iv mk, iv xi, iv yi, .val (.long d0), .second, .val (.long d1), .second, .val (.long d2), .second, rv da, rv a, .unset, .unset, .unset, .unset, .unset, .unset] [(.int xi)]) (fun _ k => XS.iloadN X1.here hx rfl (hb hby at_84) rfl k) ?_
  refine own_S (mkF m 87 #[iv mk, iv xi, iv yi, .val (.long d0), .second, .val (.long d1), .second, .val (.long d2), .second, rv da, rv a, .unset, .unset, .unset, .unset, .unset, .unset] [(.int 2147483647), (.int xi)]) (fun _ k => X1.ldcInt hx hown (mvT hZ (own_g hw (i := 35) rfl)) (g := (mkF m 85 #[iv mk, iv xi, iv yi, .val (.long d0), .second, .val (.long d1), .second, .val (.long d2), .second, rv da, rv a, .unset, .unset, .unset, .unset, .unset, .unset] [(.int xi)])) rfl (hb hby at_85) _ k) ?_
  refine own_S (mkF m 88 #[iv mk, iv xi, iv yi, .val (.long d0), .second, .val (.long d1), .second, .val (.long d2), .second, rv da, rv a, .unset, .unset, .unset, .unset, .unset, .unset] [(.int (xi &&& (2147483647 : Int32)))]) (fun _ k => XS.iand X1.here hx rfl (hb hby at_87) rfl k) ?_
  refine own_S (mkF m 89 #[iv mk, iv xi, iv yi, .val (.long d0), .second, .val (.long d1), .second, .val (.long d2), .second, rv da, rv a, .unset, .unset, .unset, .unset, .unset, .unset] [(.int 3), (.int (xi &&& (2147483647 : Int32)))]) (fun _ k => XS.iconst X1.here hx rfl (hb hby at_88) k) ?_
  refine own_S (mkF m 90 #[iv mk, iv xi, iv yi, .val (.long d0), .second, .val (.long d1), .second, .val (.long d2), .second, rv da, rv a, .unset, .unset, .unset, .unset, .unset, .unset] [(.int ((xi &&& (2147483647 : Int32)) % (3 : Int32)))]) (fun _ k => iremM X1 hx rfl (hb hby at_89) rfl (by decide) k) ?_
  refine own_S (mkF m 92 #[iv mk, iv xi, iv yi, .val (.long d0), .second, .val (.long d1), .second, .val (.long d2), .second, rv da, rv a, iv ((xi &&& (2147483647 : Int32)) % (3 : Int32)), .unset, .unset, .unset, .unset, .unset] []) (fun _ k => XS.istore X1.here hx rfl (hb hby at_90) rfl (l' := #[iv mk, iv xi, iv yi, .val (.long d0), .second, .val (.long d1), .second, .val (.long d2), .second, rv da, rv a, iv ((xi &&& (2147483647 : Int32)) % (3 : Int32)), .unset, .unset, .unset, .unset, .unset]) rfl k) ?_
  obtain ⟨av, h_av⟩ : ∃ z : Int32, z = ((xi &&& (2147483647 : Int32)) % (3 : Int32)) := ⟨_, rfl⟩
  refine own_S (T' := T1) (mkF m 92 #[iv mk, iv xi, iv yi, .val (.long d0), .second, .val (.long d1), .second, .val (.long d2), .second, rv da, rv a, iv av, .unset, .unset, .unset, .unset, .unset] []) (fun _ k => by subst h_av; exact k) ?_
  refine own_S (mkF m 93 #[iv mk, iv xi, iv yi, .val (.long d0), .second, .val (.long d1), .second, .val (.long d2), .second, rv da, rv a, iv av, .unset, .unset, .unset, .unset, .unset] [(.int yi)]) (fun _ k => XS.iloadN X1.here hx rfl (hb hby at_92) rfl k) ?_
  refine own_S (mkF m 95 #[iv mk, iv xi, iv yi, .val (.long d0), .second, .val (.long d1), .second, .val (.long d2), .second, rv da, rv a, iv av, .unset, .unset, .unset, .unset, .unset] [(.int 2147483647), (.int yi)]) (fun _ k => X1.ldcInt hx hown (mvT hZ (own_g hw (i := 35) rfl)) (g := (mkF m 93 #[iv mk, iv xi, iv yi, .val (.long d0), .second, .val (.long d1), .second, .val (.long d2), .second, rv da, rv a, iv av, .unset, .unset, .unset, .unset, .unset] [(.int yi)])) rfl (hb hby at_93) _ k) ?_
  refine own_S (mkF m 96 #[iv mk, iv xi, iv yi, .val (.long d0), .second, .val (.long d1), .second, .val (.long d2), .second, rv da, rv a, iv av, .unset, .unset, .unset, .unset, .unset] [(.int (yi &&& (2147483647 : Int32)))]) (fun _ k => XS.iand X1.here hx rfl (hb hby at_95) rfl k) ?_
  refine own_S (mkF m 97 #[iv mk, iv xi, iv yi, .val (.long d0), .second, .val (.long d1), .second, .val (.long d2), .second, rv da, rv a, iv av, .unset, .unset, .unset, .unset, .unset] [(.int 3), (.int (yi &&& (2147483647 : Int32)))]) (fun _ k => XS.iconst X1.here hx rfl (hb hby at_96) k) ?_
  refine own_S (mkF m 98 #[iv mk, iv xi, iv yi, .val (.long d0), .second, .val (.long d1), .second, .val (.long d2), .second, rv da, rv a, iv av, .unset, .unset, .unset, .unset, .unset] [(.int ((yi &&& (2147483647 : Int32)) % (3 : Int32)))]) (fun _ k => iremM X1 hx rfl (hb hby at_97) rfl (by decide) k) ?_
  refine own_S (mkF m 100 #[iv mk, iv xi, iv yi, .val (.long d0), .second, .val (.long d1), .second, .val (.long d2), .second, rv da, rv a, iv av, iv ((yi &&& (2147483647 : Int32)) % (3 : Int32)), .unset, .unset, .unset, .unset] []) (fun _ k => XS.istore X1.here hx rfl (hb hby at_98) rfl (l' := #[iv mk, iv xi, iv yi, .val (.long d0), .second, .val (.long d1), .second, .val (.long d2), .second, rv da, rv a, iv av, iv ((yi &&& (2147483647 : Int32)) % (3 : Int32)), .unset, .unset, .unset, .unset]) rfl k) ?_
  obtain ⟨bv, h_bv⟩ : ∃ z : Int32, z = ((yi &&& (2147483647 : Int32)) % (3 : Int32)) := ⟨_, rfl⟩
  refine own_S (T' := T1) (mkF m 100 #[iv mk, iv xi, iv yi, .val (.long d0), .second, .val (.long d1), .second, .val (.long d2), .second, rv da, rv a, iv av, iv bv, .unset, .unset, .unset, .unset] []) (fun _ k => by subst h_bv; exact k) ?_
  have o_a := own_m3 xi av h_av
  have o_b := own_m3 yi bv h_bv
  refine own_S (mkF m 102 #[iv mk, iv xi, iv yi, .val (.long d0), .second, .val (.long d1), .second, .val (.long d2), .second, rv da, rv a, iv av, iv bv, .unset, .unset, .unset, .unset] [(.ref a)]) (fun _ k => XS.aload X1.here hx rfl (hb hby at_100) rfl rfl k) ?_
  refine own_S (mkF m 104 #[iv mk, iv xi, iv yi, .val (.long d0), .second, .val (.long d1), .second, .val (.long d2), .second, rv da, rv a, iv av, iv bv, .unset, .unset, .unset, .unset] [(.int av), (.ref a)]) (fun _ k => XS.iload X1.here hx rfl (hb hby at_102) rfl k) ?_
  rcases o_a with q3_0 | q4_1 | q5_2
  · -- av = 0
    subst q3_0
    rcases o_b with q6_0 | q7_1 | q8_2
    · -- bv = 0
      subst q6_0
      obtain ⟨cq9, kq9, q9a, q9b, q9c⟩ := isOf hZ e1 P0
      obtain ⟨_, _, ⟨T9, L9, k9, n9⟩, -, X9, ⟨Lc9, hQ9, l9, y9, z9⟩, st9⟩ := X1.virtualBack hx (y := own_y6) (z := own_y6) hown (mvT hZ (own_g hw (i := 36) rfl)) (mvT hZ (own_g hw (i := 37) rfl)) (notFace_of_selects (args := #[]) (mvT hZ (own_g hw (i := 39) rfl))) (mvT hZ (own_g hw (i := 39) rfl)) (mvT hZ (own_g hw (i := 38) rfl)) (by decide) (backOf (W := 0) (own_rmofA l Z a0 hw [] (a) (da) (ha) (pa) (oa) (kd) (kh) (kp) (ko) ([(.long d0), (.long d1), (.long d2)]) ([g0, g1, g2]) ([(.int (-1 : Int32)), (.int (-1 : Int32)), (.int (-1 : Int32))]) ([(.long o0), (.long o1), (.long o2)]) ((0 : Int32)) (of) hh n0 Z0 P0 P1 P2 P3 P4 P5 P6 P7 P8 P9 P10 G_a G_ha G_pa G_oa NE_a_da NE_a_ha NE_a_pa NE_a_oa NE_da_ha NE_da_pa NE_da_oa NE_ha_pa NE_ha_oa NE_pa_oa (by decide) (show (0 : Nat) < 3 from by decide) (show (0 : Nat) < 3 from by decide) rfl (show (0 : Nat) < 3 from by decide)) hZ (own_g hw (i := 40) rfl) (own_g hw (i := 3) rfl) (by decide) (by decide)) q9a q9c (g := (mkF m 104 #[iv mk, iv xi, iv yi, .val (.long d0), .second, .val (.long d1), .second, .val (.long d2), .second, rv da, rv a, .val (.int 0), .val (.int 0), .unset, .unset, .unset, .unset] [(.int 0), (.ref a)])) rfl (by rw [hml]; rfl) (Steps.refl _) (argsL := [(.int 0)]) (rest := []) (lenOf own_pd__I_V rfl) rfl (by show 2 * 0 + _ ≤ _; exact Nat.le_of_eq rfl) (hb hby at_104) (fun _ _ => ⟨rfl, e1, (by decide : 5 + 0 ≤ _), (by decide : 18 + 0 ≤ _)⟩)
      dsimp only [Pt.U, Pt.locs, Pt.cells, Pt.slots] at X9 l9 y9 z9 st9 hQ9
      subst l9 y9 z9
      obtain ⟨rfl, N9q, K9q, F10, F11, F12, F13, F14, F15, F16, F17, F18, F19⟩ := hQ9
      have N9 := Fr.app N1 N9q
      refine own_S (mkF m 107 #[iv mk, iv xi, iv yi, .val (.long d0), .second, .val (.long d1), .second, .val (.long d2), .second, rv da, rv a, .val (.int 0), .val (.int 0), .unset, .unset, .unset, .unset] []) (fun _ k => st9.trans k) ?_
      have F20 := P7.keep K9q (ninS (Ne.symm NE_a_da) (ninS NE_da_ha (ninS NE_da_pa (ninS NE_da_oa nin0))))
      have Z9 : n0 ≤ T9.heap.size := Nat.le_trans Z0 K9q.1
      have F21 : own_Ar Z T9.heap ha kh .int [(.int (0 : Int32)), g1, g2] := F17
      have F22 : own_Ar Z T9.heap pa kp .int [(.int (0 : Int32)), (.int (-1 : Int32)), (.int (-1 : Int32))] := F18
      have F23 : own_Ar Z T9.heap oa ko .long [(.long (of + (1 : Int64))), (.long o1), (.long o2)] := F19
      refine own_S (mkF m 109 #[iv mk, iv xi, iv yi, .val (.long d0), .second, .val (.long d1), .second, .val (.long d2), .second, rv da, rv a, .val (.int 0), .val (.int 0), .unset, .unset, .unset, .unset] [(.ref a)]) (fun _ k => XS.aload X9.here hx rfl (hb hby at_107) rfl rfl k) ?_
      refine own_S (mkF m 111 #[iv mk, iv xi, iv yi, .val (.long d0), .second, .val (.long d1), .second, .val (.long d2), .second, rv da, rv a, .val (.int 0), .val (.int 0), .unset, .unset, .unset, .unset] [(.int 0), (.ref a)]) (fun _ k => XS.iload X9.here hx rfl (hb hby at_109) rfl k) ?_
      obtain ⟨cq24, kq24, q24a, q24b, q24c⟩ := isOf hZ rfl F10
      obtain ⟨_, _, ⟨T24, L24, k24, n24⟩, -, X24, ⟨Lc24, hQ24, l24, y24, z24⟩, st24⟩ := X9.virtualBack hx (y := own_y6) (z := own_y6) hown (mvT hZ (own_g hw (i := 36) rfl)) (mvT hZ (own_g hw (i := 37) rfl)) (notFace_of_selects (args := #[]) (mvT hZ (own_g hw (i := 39) rfl))) (mvT hZ (own_g hw (i := 39) rfl)) (mvT hZ (own_g hw (i := 38) rfl)) (by decide) (backOf (W := 0) (own_rmofC l Z a0 hw [] (a) (da) (ha) (pa) (oa) (kd) (kh) (kp) (ko) ([(.long d0), (.long d1), (.long d2)]) ([(.int (0 : Int32)), g1, g2]) ([(.int (0 : Int32)), (.int (-1 : Int32)), (.int (-1 : Int32))]) ([(.long (of + (1 : Int64))), (.long o1), (.long o2)]) ((0 : Int32)) ((of + (1 : Int64))) ((1 : Int32)) T9.heap n0 Z9 F10 F11 F12 F13 F14 F15 F16 F20 F21 F22 F23 G_a G_ha G_pa G_oa NE_a_da NE_a_ha NE_a_pa NE_a_oa NE_da_ha NE_da_pa NE_da_oa NE_ha_pa NE_ha_oa NE_pa_oa (by decide) (show (0 : Nat) < 3 from by decide) (show (0 : Nat) < 3 from by decide) rfl rfl) hZ (own_g hw (i := 40) rfl) (own_g hw (i := 3) rfl) (by decide) (by decide)) q24a q24c (g := (mkF m 111 #[iv mk, iv xi, iv yi, .val (.long d0), .second, .val (.long d1), .second, .val (.long d2), .second, rv da, rv a, .val (.int 0), .val (.int 0), .unset, .unset, .unset, .unset] [(.int 0), (.ref a)])) rfl (by rw [hml]; rfl) (Steps.refl _) (argsL := [(.int 0)]) (rest := []) (lenOf own_pd__I_V rfl) rfl (by show 2 * 0 + _ ≤ _; exact Nat.le_of_eq rfl) (hb hby at_111) (fun _ _ => ⟨rfl, rfl, (by decide : 5 + 0 ≤ _), (by decide : 18 + 0 ≤ _)⟩)
      dsimp only [Pt.U, Pt.locs, Pt.cells, Pt.slots] at X24 l24 y24 z24 st24 hQ24
      subst l24 y24 z24
      obtain ⟨rfl, N24q, K24q, F25, F26, F27, F28, F29, F30, F31, F32, F33, F34⟩ := hQ24
      have N24 := Fr.app N9 N24q
      refine own_S (mkF m 114 #[iv mk, iv xi, iv yi, .val (.long d0), .second, .val (.long d1), .second, .val (.long d2), .second, rv da, rv a, .val (.int 0), .val (.int 0), .unset, .unset, .unset, .unset] []) (fun _ k => st24.trans k) ?_
      have F35 := F20.keep K24q (ninS (Ne.symm NE_a_da) (ninS NE_da_ha (ninS NE_da_pa (ninS NE_da_oa nin0))))
      have Z24 : n0 ≤ T24.heap.size := Nat.le_trans Z9 K24q.1
      have F36 : own_Ar Z T24.heap ha kh .int [(.int (0 : Int32)), g1, g2] := F32
      have F37 : own_Ar Z T24.heap pa kp .int [(.int (0 : Int32)), (.int (-1 : Int32)), (.int (-1 : Int32))] := F33
      have F38 : own_Ar Z T24.heap oa ko .long [(.long ((of + (1 : Int64)) + (1 : Int64))), (.long o1), (.long o2)] := F34
      refine own_S (mkF m 116 #[iv mk, iv xi, iv yi, .val (.long d0), .second, .val (.long d1), .second, .val (.long d2), .second, rv da, rv a, .val (.int 0), .val (.int 0), .unset, .unset, .unset, .unset] [(.ref a)]) (fun _ k => XS.aload X24.here hx rfl (hb hby at_114) rfl rfl k) ?_
      obtain ⟨cq39, kq39, q39a, q39b, q39c⟩ := isOf hZ rfl F25
      obtain ⟨_, _, ⟨T39, L39, k39, n39⟩, -, X39, ⟨Lc39, hQ39, l39, y39, z39⟩, st39⟩ := X24.virtualBack hx (y := own_y2) (z := own_y2) hown (mvT hZ (own_g hw (i := 30) rfl)) (mvT hZ (own_g hw (i := 31) rfl)) (notFace_of_selects (args := #[]) (mvT hZ (own_g hw (i := 33) rfl))) (mvT hZ (own_g hw (i := 33) rfl)) (mvT hZ (own_g hw (i := 32) rfl)) (by decide) (backOf (W := 0) (own_rmne l Z a0 hw [] (a) ((1 : Int32)) T24.heap n0 Z24 F30 (by decide)) hZ (own_g hw (i := 34) rfl) (own_g hw (i := 3) rfl) (by decide) (by decide)) q39a q39c (g := (mkF m 116 #[iv mk, iv xi, iv yi, .val (.long d0), .second, .val (.long d1), .second, .val (.long d2), .second, rv da, rv a, .val (.int 0), .val (.int 0), .unset, .unset, .unset, .unset] [(.ref a)])) rfl (by rw [hml]; rfl) (Steps.refl _) (argsL := []) (rest := []) (lenOf own_pd___Z rfl) rfl (by show 2 * 0 + _ ≤ _; exact Nat.le_of_eq rfl) (hb hby at_116) (fun _ _ => ⟨rfl, rfl, (by decide : 5 + 0 ≤ _), (by decide : 18 + 0 ≤ _)⟩)
      dsimp only [Pt.U, Pt.locs, Pt.cells, Pt.slots] at X39 l39 y39 z39 st39 hQ39
      subst l39 y39 z39
      obtain ⟨rfl, N39q, e39⟩ := hQ39
      have N39 := Fr.app N24 N39q
      refine own_S (mkF m 119 #[iv mk, iv xi, iv yi, .val (.long d0), .second, .val (.long d1), .second, .val (.long d2), .second, rv da, rv a, .val (.int 0), .val (.int 0), .unset, .unset, .unset, .unset] [(.int 0)]) (fun _ k => st39.trans k) ?_
      have hc40 : (0 : Int32) = (0 : Int32) := by decide
      refine own_S (mkF m 124 #[iv mk, iv xi, iv yi, .val (.long d0), .second, .val (.long d1), .second, .val (.long d2), .second, rv da, rv a, .val (.int 0), .val (.int 0), .unset, .unset, .unset, .unset] []) (fun _ k => XS.ifYes X39.here hx rfl (pc0 := 119) (pc' := 124) rfl (hb hby at_119) rfl ((if0 _ _).trans (teq hc40).1) (by decide) (by decide) k) ?_
      refine own_S (mkF m 126 #[iv mk, iv xi, iv yi, .val (.long d0), .second, .val (.long d1), .second, .val (.long d2), .second, rv da, rv a, .val (.int 0), .val (.int 0), .unset, .unset, .unset, .unset] [(.int 0)]) (fun _ k => XS.iload X39.here hx rfl (hb hby at_124) rfl k) ?_
      refine own_S (mkF m 128 #[iv mk, iv xi, iv yi, .val (.long d0), .second, .val (.long d1), .second, .val (.long d2), .second, rv da, rv a, .val (.int 0), .val (.int 0), .unset, .unset, .unset, .unset] [(.int 0), (.int 0)]) (fun _ k => XS.iload X39.here hx rfl (hb hby at_126) rfl k) ?_
      have hc41 : (0 : Int32) = (0 : Int32) := by decide
      refine own_S (mkF m 131 #[iv mk, iv xi, iv yi, .val (.long d0), .second, .val (.long d1), .second, .val (.long d2), .second, rv da, rv a, .val (.int 0), .val (.int 0), .unset, .unset, .unset, .unset] []) (fun _ k => XS.icmpNo X39.here hx rfl (hb hby at_128) rfl (teq hc41).2 k) ?_
      refine own_S (mkF m 133 #[iv mk, iv xi, iv yi, .val (.long d0), .second, .val (.long d1), .second, .val (.long d2), .second, rv da, rv a, .val (.int 0), .val (.int 0), .unset, .unset, .unset, .unset] [(.ref a)]) (fun _ k => XS.aload X39.here hx rfl (hb hby at_131) rfl rfl k) ?_
      obtain ⟨cq42, kq42, q42a, q42b, q42c⟩ := isOf hZ e39 F25
      obtain ⟨_, _, ⟨T42, L42, k42, n42⟩, -, X42, ⟨Lc42, hQ42, l42, y42, z42⟩, st42⟩ := X39.virtualBack hx (y := own_y9) (z := own_y9) hown (mvT hZ (own_g hw (i := 55) rfl)) (mvT hZ (own_g hw (i := 56) rfl)) (notFace_of_selects (args := #[]) (mvT hZ (own_g hw (i := 58) rfl))) (mvT hZ (own_g hw (i := 58) rfl)) (mvT hZ (own_g hw (i := 57) rfl)) (by decide) (backOf (W := 0) (own_rmpo1 l Z a0 hw [] (a) (da) (ha) (pa) (oa) (kd) (kh) (kp) (ko) ([(.long d0), (.long d1), (.long d2)]) ([(.int (0 : Int32)), g1, g2]) ([(.int (0 : Int32)), (.int (-1 : Int32)), (.int (-1 : Int32))]) ([(.long ((of + (1 : Int64)) + (1 : Int64))), (.long o1), (.long o2)]) (((of + (1 : Int64)) + (1 : Int64))) ((0 : Int32)) T24.heap n0 Z24 F25 F26 F27 F28 F29 F30 F31 F35 F36 F37 F38 G_a G_ha G_pa NE_a_da NE_a_ha NE_a_pa NE_a_oa NE_da_ha NE_da_pa NE_da_oa NE_ha_pa NE_ha_oa NE_pa_oa rfl (by decide) (show (0 : Nat) < 3 from by decide)) hZ (own_g hw (i := 59) rfl) (own_g hw (i := 3) rfl) (by decide) (by decide)) q42a q42c (g := (mkF m 133 #[iv mk, iv xi, iv yi, .val (.long d0), .second, .val (.long d1), .second, .val (.long d2), .second, rv da, rv a, .val (.int 0), .val (.int 0), .unset, .unset, .unset, .unset] [(.ref a)])) rfl (by rw [hml]; rfl) (Steps.refl _) (argsL := []) (rest := []) (lenOf own_pd___I rfl) rfl (by show 2 * 0 + _ ≤ _; exact Nat.le_of_eq rfl) (hb hby at_133) (fun _ _ => ⟨rfl, e39, (by decide : 5 + 0 ≤ _), (by decide : 18 + 0 ≤ _)⟩)
      dsimp only [Pt.U, Pt.locs, Pt.cells, Pt.slots] at X42 l42 y42 z42 st42 hQ42
      subst l42 y42 z42
      obtain ⟨rfl, N42q, K42q, F43, F44, F45, F46, F47, F48, F49, F50, F51⟩ := hQ42
      have N42 := Fr.app N39 N42q
      refine own_S (mkF m 136 #[iv mk, iv xi, iv yi, .val (.long d0), .second, .val (.long d1), .second, .val (.long d2), .second, rv da, rv a, .val (.int 0), .val (.int 0), .unset, .unset, .unset, .unset] [(.int 0)]) (fun _ k => st42.trans k) ?_
      have F52 := F35.keep K42q (ninS (Ne.symm NE_a_da) (ninS NE_da_ha (ninS NE_da_pa nin0)))
      have F53 := F38.keep K42q (ninS (Ne.symm NE_a_oa) (ninS (Ne.symm NE_ha_oa) (ninS (Ne.symm NE_pa_oa) nin0)))
      have Z42 : n0 ≤ T42.heap.size := Nat.le_trans Z24 K42q.1
      refine own_S (mkF m 138 #[iv mk, iv xi, iv yi, .val (.long d0), .second, .val (.long d1), .second, .val (.long d2), .second, rv da, rv a, .val (.int 0), .val (.int 0), .val (.int 0), .unset, .unset, .unset] []) (fun _ k => XS.istore X42.here hx rfl (hb hby at_136) rfl (l' := #[iv mk, iv xi, iv yi, .val (.long d0), .second, .val (.long d1), .second, .val (.long d2), .second, rv da, rv a, .val (.int 0), .val (.int 0), .val (.int 0), .unset, .unset, .unset]) rfl k) ?_
      refine own_S (mkF m 140 #[iv mk, iv xi, iv yi, .val (.long d0), .second, .val (.long d1), .second, .val (.long d2), .second, rv da, rv a, .val (.int 0), .val (.int 0), .val (.int 0), .unset, .unset, .unset] [(.int 0)]) (fun _ k => XS.iload X42.here hx rfl (hb hby at_138) rfl k) ?_
      refine own_S (mkF m 142 #[iv mk, iv xi, iv yi, .val (.long d0), .second, .val (.long d1), .second, .val (.long d2), .second, rv da, rv a, .val (.int 0), .val (.int 0), .val (.int 0), .unset, .unset, .unset] [(.int 0), (.int 0)]) (fun _ k => XS.iload X42.here hx rfl (hb hby at_140) rfl k) ?_
      have hc54 : (0 : Int32) = (0 : Int32) := by decide
      refine own_S (mkF m 145 #[iv mk, iv xi, iv yi, .val (.long d0), .second, .val (.long d1), .second, .val (.long d2), .second, rv da, rv a, .val (.int 0), .val (.int 0), .val (.int 0), .unset, .unset, .unset] []) (fun _ k => XS.icmpNo X42.here hx rfl (hb hby at_142) rfl (teq hc54).2 k) ?_
      refine own_S (mkF m 147 #[iv mk, iv xi, iv yi, .val (.long d0), .second, .val (.long d1), .second, .val (.long d2), .second, rv da, rv a, .val (.int 0), .val (.int 0), .val (.int 0), .unset, .unset, .unset] [(.ref a)]) (fun _ k => XS.aload X42.here hx rfl (hb hby at_145) rfl rfl k) ?_
      obtain ⟨cq55, kq55, q55a, q55b, q55c⟩ := isOf hZ rfl F43
      obtain ⟨_, _, ⟨T55, L55, k55, n55⟩, -, X55, ⟨Lc55, hQ55, l55, y55, z55⟩, st55⟩ := X42.virtualBack hx (y := own_y2) (z := own_y2) hown (mvT hZ (own_g hw (i := 30) rfl)) (mvT hZ (own_g hw (i := 31) rfl)) (notFace_of_selects (args := #[]) (mvT hZ (own_g hw (i := 33) rfl))) (mvT hZ (own_g hw (i := 33) rfl)) (mvT hZ (own_g hw (i := 32) rfl)) (by decide) (backOf (W := 0) (own_rmem l Z a0 hw [] (a) T42.heap n0 Z42 F48) hZ (own_g hw (i := 34) rfl) (own_g hw (i := 3) rfl) (by decide) (by decide)) q55a q55c (g := (mkF m 147 #[iv mk, iv xi, iv yi, .val (.long d0), .second, .val (.long d1), .second, .val (.long d2), .second, rv da, rv a, .val (.int 0), .val (.int 0), .val (.int 0), .unset, .unset, .unset] [(.ref a)])) rfl (by rw [hml]; rfl) (Steps.refl _) (argsL := []) (rest := []) (lenOf own_pd___Z rfl) rfl (by show 2 * 0 + _ ≤ _; exact Nat.le_of_eq rfl) (hb hby at_147) (fun _ _ => ⟨rfl, rfl, (by decide : 5 + 0 ≤ _), (by decide : 18 + 0 ≤ _)⟩)
      dsimp only [Pt.U, Pt.locs, Pt.cells, Pt.slots] at X55 l55 y55 z55 st55 hQ55
      subst l55 y55 z55
      obtain ⟨rfl, N55q, e55⟩ := hQ55
      have N55 := Fr.app N42 N55q
      refine own_S (mkF m 150 #[iv mk, iv xi, iv yi, .val (.long d0), .second, .val (.long d1), .second, .val (.long d2), .second, rv da, rv a, .val (.int 0), .val (.int 0), .val (.int 0), .unset, .unset, .unset] [(.int 1)]) (fun _ k => st55.trans k) ?_
      have hc56 : ¬ ((1 : Int32) = (0 : Int32)) := by decide
      refine own_S (mkF m 153 #[iv mk, iv xi, iv yi, .val (.long d0), .second, .val (.long d1), .second, .val (.long d2), .second, rv da, rv a, .val (.int 0), .val (.int 0), .val (.int 0), .unset, .unset, .unset] []) (fun _ k => XS.ifNo X55.here hx rfl (hb hby at_150) rfl ((if0 _ _).trans (feq hc56).1) k) ?_
      refine own_S (mkF m 154 #[iv mk, iv xi, iv yi, .val (.long d0), .second, .val (.long d1), .second, .val (.long d2), .second, rv da, rv a, .val (.int 0), .val (.int 0), .val (.int 0), .unset, .unset, .unset] [(.int 1)]) (fun _ k => XS.iconst X55.here hx rfl (hb hby at_153) k) ?_
      refine own_S (mkF m 158 #[iv mk, iv xi, iv yi, .val (.long d0), .second, .val (.long d1), .second, .val (.long d2), .second, rv da, rv a, .val (.int 0), .val (.int 0), .val (.int 0), .unset, .unset, .unset] [(.int 1)]) (fun _ k => XS.goto X55.here hx rfl (pc0 := 154) (pc' := 158) rfl (hb hby at_154) (by decide) (by decide) k) ?_
      exact own_retN X55 hx hlk (t := .boolean) hret (by simp) (hb hby at_158) (by rw [e55]; exact ⟨rfl, N55, trivial⟩) (by decide) (by decide)
    · -- bv = 1
      subst q7_1
      obtain ⟨cq57, kq57, q57a, q57b, q57c⟩ := isOf hZ e1 P0
      obtain ⟨_, _, ⟨T57, L57, k57, n57⟩, -, X57, ⟨Lc57, hQ57, l57, y57, z57⟩, st57⟩ := X1.virtualBack hx (y := own_y6) (z := own_y6) hown (mvT hZ (own_g hw (i := 36) rfl)) (mvT hZ (own_g hw (i := 37) rfl)) (notFace_of_selects (args := #[]) (mvT hZ (own_g hw (i := 39) rfl))) (mvT hZ (own_g hw (i := 39) rfl)) (mvT hZ (own_g hw (i := 38) rfl)) (by decide) (backOf (W := 0) (own_rmofA l Z a0 hw [] (a) (da) (ha) (pa) (oa) (kd) (kh) (kp) (ko) ([(.long d0), (.long d1), (.long d2)]) ([g0, g1, g2]) ([(.int (-1 : Int32)), (.int (-1 : Int32)), (.int (-1 : Int32))]) ([(.long o0), (.long o1), (.long o2)]) ((0 : Int32)) (of) hh n0 Z0 P0 P1 P2 P3 P4 P5 P6 P7 P8 P9 P10 G_a G_ha G_pa G_oa NE_a_da NE_a_ha NE_a_pa NE_a_oa NE_da_ha NE_da_pa NE_da_oa NE_ha_pa NE_ha_oa NE_pa_oa (by decide) (show (0 : Nat) < 3 from by decide) (show (0 : Nat) < 3 from by decide) rfl (show (0 : Nat) < 3 from by decide)) hZ (own_g hw (i := 40) rfl) (own_g hw (i := 3) rfl) (by decide) (by decide)) q57a q57c (g := (mkF m 104 #[iv mk, iv xi, iv yi, .val (.long d0), .second, .val (.long d1), .second, .val (.long d2), .second, rv da, rv a, .val (.int 0), .val (.int 1), .unset, .unset, .unset, .unset] [(.int 0), (.ref a)])) rfl (by rw [hml]; rfl) (Steps.refl _) (argsL := [(.int 0)]) (rest := []) (lenOf own_pd__I_V rfl) rfl (by show 2 * 0 + _ ≤ _; exact Nat.le_of_eq rfl) (hb hby at_104) (fun _ _ => ⟨rfl, e1, (by decide : 5 + 0 ≤ _), (by decide : 18 + 0 ≤ _)⟩)
      dsimp only [Pt.U, Pt.locs, Pt.cells, Pt.slots] at X57 l57 y57 z57 st57 hQ57
      subst l57 y57 z57
      obtain ⟨rfl, N57q, K57q, F58, F59, F60, F61, F62, F63, F64, F65, F66, F67⟩ := hQ57
      have N57 := Fr.app N1 N57q
      refine own_S (mkF m 107 #[iv mk, iv xi, iv yi, .val (.long d0), .second, .val (.long d1), .second, .val (.long d2), .second, rv da, rv a, .val (.int 0), .val (.int 1), .unset, .unset, .unset, .unset] []) (fun _ k => st57.trans k) ?_
      have F68 := P7.keep K57q (ninS (Ne.symm NE_a_da) (ninS NE_da_ha (ninS NE_da_pa (ninS NE_da_oa nin0))))
      have Z57 : n0 ≤ T57.heap.size := Nat.le_trans Z0 K57q.1
      have F69 : own_Ar Z T57.heap ha kh .int [(.int (0 : Int32)), g1, g2] := F65
      have F70 : own_Ar Z T57.heap pa kp .int [(.int (0 : Int32)), (.int (-1 : Int32)), (.int (-1 : Int32))] := F66
      have F71 : own_Ar Z T57.heap oa ko .long [(.long (of + (1 : Int64))), (.long o1), (.long o2)] := F67
      refine own_S (mkF m 109 #[iv mk, iv xi, iv yi, .val (.long d0), .second, .val (.long d1), .second, .val (.long d2), .second, rv da, rv a, .val (.int 0), .val (.int 1), .unset, .unset, .unset, .unset] [(.ref a)]) (fun _ k => XS.aload X57.here hx rfl (hb hby at_107) rfl rfl k) ?_
      refine own_S (mkF m 111 #[iv mk, iv xi, iv yi, .val (.long d0), .second, .val (.long d1), .second, .val (.long d2), .second, rv da, rv a, .val (.int 0), .val (.int 1), .unset, .unset, .unset, .unset] [(.int 1), (.ref a)]) (fun _ k => XS.iload X57.here hx rfl (hb hby at_109) rfl k) ?_
      by_cases hB : (d1 < d0 ∨ (d1 = d0 ∧ (of + (1 : Int64)) < ((of + (1 : Int64)) + (1 : Int64))))
      ·
        obtain ⟨cq72, kq72, q72a, q72b, q72c⟩ := isOf hZ rfl F58
        obtain ⟨_, _, ⟨T72, L72, k72, n72⟩, -, X72, ⟨Lc72, hQ72, l72, y72, z72⟩, st72⟩ := X57.virtualBack hx (y := own_y6) (z := own_y6) hown (mvT hZ (own_g hw (i := 36) rfl)) (mvT hZ (own_g hw (i := 37) rfl)) (notFace_of_selects (args := #[]) (mvT hZ (own_g hw (i := 39) rfl))) (mvT hZ (own_g hw (i := 39) rfl)) (mvT hZ (own_g hw (i := 38) rfl)) (by decide) (backOf (W := 0) (own_rmof1m l Z a0 hw [] (a) (da) (ha) (pa) (oa) (kd) (kh) (kp) (ko) ([(.long d0), (.long d1), (.long d2)]) ([(.int (0 : Int32)), g1, g2]) ([(.int (0 : Int32)), (.int (-1 : Int32)), (.int (-1 : Int32))]) ([(.long (of + (1 : Int64))), (.long o1), (.long o2)]) ((1 : Int32)) ((0 : Int32)) ((of + (1 : Int64))) (d1) (d0) ((of + (1 : Int64))) T57.heap n0 Z57 F58 F59 F60 F61 F62 F63 F64 F68 F69 F70 F71 G_a G_ha G_pa G_oa NE_a_da NE_a_ha NE_a_pa NE_a_oa NE_da_ha NE_da_pa NE_da_oa NE_ha_pa NE_ha_oa NE_pa_oa (by decide) (show (1 : Nat) < 3 from by decide) (show (1 : Nat) < 3 from by decide) rfl (show (1 : Nat) < 3 from by decide) rfl (by decide) (show (0 : Nat) < 3 from by decide) (by decide) rfl rfl rfl hB) hZ (own_g hw (i := 40) rfl) (own_g hw (i := 3) rfl) (by decide) (by decide)) q72a q72c (g := (mkF m 111 #[iv mk, iv xi, iv yi, .val (.long d0), .second, .val (.long d1), .second, .val (.long d2), .second, rv da, rv a, .val (.int 0), .val (.int 1), .unset, .unset, .unset, .unset] [(.int 1), (.ref a)])) rfl (by rw [hml]; rfl) (Steps.refl _) (argsL := [(.int 1)]) (rest := []) (lenOf own_pd__I_V rfl) rfl (by show 2 * 0 + _ ≤ _; exact Nat.le_of_eq rfl) (hb hby at_111) (fun _ _ => ⟨rfl, rfl, (by decide : 5 + 0 ≤ _), (by decide : 18 + 0 ≤ _)⟩)
        dsimp only [Pt.U, Pt.locs, Pt.cells, Pt.slots] at X72 l72 y72 z72 st72 hQ72
        subst l72 y72 z72
        obtain ⟨rfl, N72q, K72q, F73, F74, F75, F76, F77, F78, F79, F80, F81, F82⟩ := hQ72
        have N72 := Fr.app N57 N72q
        refine own_S (mkF m 114 #[iv mk, iv xi, iv yi, .val (.long d0), .second, .val (.long d1), .second, .val (.long d2), .second, rv da, rv a, .val (.int 0), .val (.int 1), .unset, .unset, .unset, .unset] []) (fun _ k => st72.trans k) ?_
        have F83 := F68.keep K72q (ninS (Ne.symm NE_a_da) (ninS NE_da_ha (ninS NE_da_pa (ninS NE_da_oa nin0))))
        have Z72 : n0 ≤ T72.heap.size := Nat.le_trans Z57 K72q.1
        have F84 : own_Ar Z T72.heap ha kh .int [(.int (1 : Int32)), (.int (0 : Int32)), g2] := F80
        have F85 : own_Ar Z T72.heap pa kp .int [(.int (1 : Int32)), (.int (0 : Int32)), (.int (-1 : Int32))] := F81
        have F86 : own_Ar Z T72.heap oa ko .long [(.long (of + (1 : Int64))), (.long ((of + (1 : Int64)) + (1 : Int64))), (.long o2)] := F82
        refine own_S (mkF m 116 #[iv mk, iv xi, iv yi, .val (.long d0), .second, .val (.long d1), .second, .val (.long d2), .second, rv da, rv a, .val (.int 0), .val (.int 1), .unset, .unset, .unset, .unset] [(.ref a)]) (fun _ k => XS.aload X72.here hx rfl (hb hby at_114) rfl rfl k) ?_
        obtain ⟨cq87, kq87, q87a, q87b, q87c⟩ := isOf hZ rfl F73
        obtain ⟨_, _, ⟨T87, L87, k87, n87⟩, -, X87, ⟨Lc87, hQ87, l87, y87, z87⟩, st87⟩ := X72.virtualBack hx (y := own_y2) (z := own_y2) hown (mvT hZ (own_g hw (i := 30) rfl)) (mvT hZ (own_g hw (i := 31) rfl)) (notFace_of_selects (args := #[]) (mvT hZ (own_g hw (i := 33) rfl))) (mvT hZ (own_g hw (i := 33) rfl)) (mvT hZ (own_g hw (i := 32) rfl)) (by decide) (backOf (W := 0) (own_rmne l Z a0 hw [] (a) ((2 : Int32)) T72.heap n0 Z72 F78 (by decide)) hZ (own_g hw (i := 34) rfl) (own_g hw (i := 3) rfl) (by decide) (by decide)) q87a q87c (g := (mkF m 116 #[iv mk, iv xi, iv yi, .val (.long d0), .second, .val (.long d1), .second, .val (.long d2), .second, rv da, rv a, .val (.int 0), .val (.int 1), .unset, .unset, .unset, .unset] [(.ref a)])) rfl (by rw [hml]; rfl) (Steps.refl _) (argsL := []) (rest := []) (lenOf own_pd___Z rfl) rfl (by show 2 * 0 + _ ≤ _; exact Nat.le_of_eq rfl) (hb hby at_116) (fun _ _ => ⟨rfl, rfl, (by decide : 5 + 0 ≤ _), (by decide : 18 + 0 ≤ _)⟩)
        dsimp only [Pt.U, Pt.locs, Pt.cells, Pt.slots] at X87 l87 y87 z87 st87 hQ87
        subst l87 y87 z87
        obtain ⟨rfl, N87q, e87⟩ := hQ87
        have N87 := Fr.app N72 N87q
        refine own_S (mkF m 119 #[iv mk, iv xi, iv yi, .val (.long d0), .second, .val (.long d1), .second, .val (.long d2), .second, rv da, rv a, .val (.int 0), .val (.int 1), .unset, .unset, .unset, .unset] [(.int 0)]) (fun _ k => st87.trans k) ?_
        have hc88 : (0 : Int32) = (0 : Int32) := by decide
        refine own_S (mkF m 124 #[iv mk, iv xi, iv yi, .val (.long d0), .second, .val (.long d1), .second, .val (.long d2), .second, rv da, rv a, .val (.int 0), .val (.int 1), .unset, .unset, .unset, .unset] []) (fun _ k => XS.ifYes X87.here hx rfl (pc0 := 119) (pc' := 124) rfl (hb hby at_119) rfl ((if0 _ _).trans (teq hc88).1) (by decide) (by decide) k) ?_
        refine own_S (mkF m 126 #[iv mk, iv xi, iv yi, .val (.long d0), .second, .val (.long d1), .second, .val (.long d2), .second, rv da, rv a, .val (.int 0), .val (.int 1), .unset, .unset, .unset, .unset] [(.int 0)]) (fun _ k => XS.iload X87.here hx rfl (hb hby at_124) rfl k) ?_
        refine own_S (mkF m 128 #[iv mk, iv xi, iv yi, .val (.long d0), .second, .val (.long d1), .second, .val (.long d2), .second, rv da, rv a, .val (.int 0), .val (.int 1), .unset, .unset, .unset, .unset] [(.int 1), (.int 0)]) (fun _ k => XS.iload X87.here hx rfl (hb hby at_126) rfl k) ?_
        have hc89 : ¬ ((0 : Int32) = (1 : Int32)) := by decide
        refine own_S (mkF m 159 #[iv mk, iv xi, iv yi, .val (.long d0), .second, .val (.long d1), .second, .val (.long d2), .second, rv da, rv a, .val (.int 0), .val (.int 1), .unset, .unset, .unset, .unset] []) (fun _ k => XS.icmpYes X87.here hx rfl (pc0 := 128) (pc' := 159) rfl (hb hby at_128) rfl (feq hc89).2 (by decide) (by decide) k) ?_
        refine own_S (mkF m 161 #[iv mk, iv xi, iv yi, .val (.long d0), .second, .val (.long d1), .second, .val (.long d2), .second, rv da, rv a, .val (.int 0), .val (.int 1), .unset, .unset, .unset, .unset] [(.ref da)]) (fun _ k => XS.aload X87.here hx rfl (hb hby at_159) rfl rfl k) ?_
        refine own_S (mkF m 163 #[iv mk, iv xi, iv yi, .val (.long d0), .second, .val (.long d1), .second, .val (.long d2), .second, rv da, rv a, .val (.int 0), .val (.int 1), .unset, .unset, .unset, .unset] [(.int 0), (.ref da)]) (fun _ k => XS.iload X87.here hx rfl (hb hby at_161) rfl k) ?_
        refine own_S (mkF m 164 #[iv mk, iv xi, iv yi, .val (.long d0), .second, .val (.long d1), .second, .val (.long d2), .second, rv da, rv a, .val (.int 0), .val (.int 1), .unset, .unset, .unset, .unset] [(.long d0)]) (fun _ k => own_ldJ X87 hx hZ e87 F83 (by decide) rfl (g := (mkF m 163 #[iv mk, iv xi, iv yi, .val (.long d0), .second, .val (.long d1), .second, .val (.long d2), .second, rv da, rv a, .val (.int 0), .val (.int 1), .unset, .unset, .unset, .unset] [(.int 0), (.ref da)])) rfl rfl (hb hby at_163) _ k) ?_
        refine own_S (mkF m 166 #[iv mk, iv xi, iv yi, .val (.long d0), .second, .val (.long d1), .second, .val (.long d2), .second, rv da, rv a, .val (.int 0), .val (.int 1), .unset, .unset, .unset, .unset] [(.ref da), (.long d0)]) (fun _ k => XS.aload X87.here hx rfl (hb hby at_164) rfl rfl k) ?_
        refine own_S (mkF m 168 #[iv mk, iv xi, iv yi, .val (.long d0), .second, .val (.long d1), .second, .val (.long d2), .second, rv da, rv a, .val (.int 0), .val (.int 1), .unset, .unset, .unset, .unset] [(.int 1), (.ref da), (.long d0)]) (fun _ k => XS.iload X87.here hx rfl (hb hby at_166) rfl k) ?_
        refine own_S (mkF m 169 #[iv mk, iv xi, iv yi, .val (.long d0), .second, .val (.long d1), .second, .val (.long d2), .second, rv da, rv a, .val (.int 0), .val (.int 1), .unset, .unset, .unset, .unset] [(.long d1), (.long d0)]) (fun _ k => own_ldJ X87 hx hZ e87 F83 (by decide) rfl (g := (mkF m 168 #[iv mk, iv xi, iv yi, .val (.long d0), .second, .val (.long d1), .second, .val (.long d2), .second, rv da, rv a, .val (.int 0), .val (.int 1), .unset, .unset, .unset, .unset] [(.int 1), (.ref da), (.long d0)])) rfl rfl (hb hby at_168) _ k) ?_
        refine own_S (mkF m 170 #[iv mk, iv xi, iv yi, .val (.long d0), .second, .val (.long d1), .second, .val (.long d2), .second, rv da, rv a, .val (.int 0), .val (.int 1), .unset, .unset, .unset, .unset] [(.int (lcmpW d0 d1))]) (fun _ k => XS.lcmp X87.here hx rfl (hb hby at_169) rfl k) ?_
        have hc90 : ¬ (d0 < d1) := (own_nlt hB)
        refine own_S (mkF m 178 #[iv mk, iv xi, iv yi, .val (.long d0), .second, .val (.long d1), .second, .val (.long d2), .second, rv da, rv a, .val (.int 0), .val (.int 1), .unset, .unset, .unset, .unset] []) (fun _ k => XS.ifYes X87.here hx rfl (pc0 := 170) (pc' := 178) rfl (hb hby at_170) rfl ((if0 _ _).trans (flt (fun q => hc90 ((lw_lt d0 d1).mp q))).2.1) (by decide) (by decide) k) ?_
        refine own_S (mkF m 180 #[iv mk, iv xi, iv yi, .val (.long d0), .second, .val (.long d1), .second, .val (.long d2), .second, rv da, rv a, .val (.int 0), .val (.int 1), .unset, .unset, .unset, .unset] [(.int 1)]) (fun _ k => XS.iload X87.here hx rfl (hb hby at_178) rfl k) ?_
        refine own_S (mkF m 182 #[iv mk, iv xi, iv yi, .val (.long d0), .second, .val (.long d1), .second, .val (.long d2), .second, rv da, rv a, .val (.int 0), .val (.int 1), .val (.int 1), .unset, .unset, .unset] []) (fun _ k => XS.istore X87.here hx rfl (hb hby at_180) rfl (l' := #[iv mk, iv xi, iv yi, .val (.long d0), .second, .val (.long d1), .second, .val (.long d2), .second, rv da, rv a, .val (.int 0), .val (.int 1), .val (.int 1), .unset, .unset, .unset]) rfl k) ?_
        refine own_S (mkF m 184 #[iv mk, iv xi, iv yi, .val (.long d0), .second, .val (.long d1), .second, .val (.long d2), .second, rv da, rv a, .val (.int 0), .val (.int 1), .val (.int 1), .unset, .unset, .unset] [(.int 1)]) (fun _ k => XS.iload X87.here hx rfl (hb hby at_182) rfl k) ?_
        refine own_S (mkF m 186 #[iv mk, iv xi, iv yi, .val (.long d0), .second, .val (.long d1), .second, .val (.long d2), .second, rv da, rv a, .val (.int 0), .val (.int 1), .val (.int 1), .unset, .unset, .unset] [(.int 0), (.int 1)]) (fun _ k => XS.iload X87.here hx rfl (hb hby at_184) rfl k) ?_
        have hc91 : ¬ ((1 : Int32) = (0 : Int32)) := by decide
        refine own_S (mkF m 194 #[iv mk, iv xi, iv yi, .val (.long d0), .second, .val (.long d1), .second, .val (.long d2), .second, rv da, rv a, .val (.int 0), .val (.int 1), .val (.int 1), .unset, .unset, .unset] []) (fun _ k => XS.icmpYes X87.here hx rfl (pc0 := 186) (pc' := 194) rfl (hb hby at_186) rfl (feq hc91).2 (by decide) (by decide) k) ?_
        refine own_S (mkF m 196 #[iv mk, iv xi, iv yi, .val (.long d0), .second, .val (.long d1), .second, .val (.long d2), .second, rv da, rv a, .val (.int 0), .val (.int 1), .val (.int 1), .unset, .unset, .unset] [(.int 0)]) (fun _ k => XS.iload X87.here hx rfl (hb hby at_194) rfl k) ?_
        refine own_S (mkF m 198 #[iv mk, iv xi, iv yi, .val (.long d0), .second, .val (.long d1), .second, .val (.long d2), .second, rv da, rv a, .val (.int 0), .val (.int 1), .val (.int 1), .val (.int 0), .unset, .unset] []) (fun _ k => XS.istore X87.here hx rfl (hb hby at_196) rfl (l' := #[iv mk, iv xi, iv yi, .val (.long d0), .second, .val (.long d1), .second, .val (.long d2), .second, rv da, rv a, .val (.int 0), .val (.int 1), .val (.int 1), .val (.int 0), .unset, .unset]) rfl k) ?_
        refine own_S (mkF m 200 #[iv mk, iv xi, iv yi, .val (.long d0), .second, .val (.long d1), .second, .val (.long d2), .second, rv da, rv a, .val (.int 0), .val (.int 1), .val (.int 1), .val (.int 0), .unset, .unset] [(.ref a)]) (fun _ k => XS.aload X87.here hx rfl (hb hby at_198) rfl rfl k) ?_
        obtain ⟨cq92, kq92, q92a, q92b, q92c⟩ := isOf hZ e87 F73
        obtain ⟨_, _, ⟨T92, L92, k92, n92⟩, -, X92, ⟨Lc92, hQ92, l92, y92, z92⟩, st92⟩ := X87.virtualBack hx (y := own_y9) (z := own_y9) hown (mvT hZ (own_g hw (i := 55) rfl)) (mvT hZ (own_g hw (i := 56) rfl)) (notFace_of_selects (args := #[]) (mvT hZ (own_g hw (i := 58) rfl))) (mvT hZ (own_g hw (i := 58) rfl)) (mvT hZ (own_g hw (i := 57) rfl)) (by decide) (backOf (W := 0) (own_rmpo2 l Z a0 hw [] (a) (da) (ha) (pa) (oa) (kd) (kh) (kp) (ko) ([(.long d0), (.long d1), (.long d2)]) ([(.int (1 : Int32)), (.int (0 : Int32)), g2]) ([(.int (1 : Int32)), (.int (0 : Int32)), (.int (-1 : Int32))]) ([(.long (of + (1 : Int64))), (.long ((of + (1 : Int64)) + (1 : Int64))), (.long o2)]) (((of + (1 : Int64)) + (1 : Int64))) ((1 : Int32)) ((0 : Int32)) T72.heap n0 Z72 F73 F74 F75 F76 F77 F78 F79 F83 F84 F85 F86 G_a G_ha G_pa NE_a_da NE_a_ha NE_a_pa NE_a_oa NE_da_ha NE_da_pa NE_da_oa NE_ha_pa NE_ha_oa NE_pa_oa rfl (by decide) (show (1 : Nat) < 3 from by decide) rfl (by decide) (show (0 : Nat) < 3 from by decide)) hZ (own_g hw (i := 59) rfl) (own_g hw (i := 3) rfl) (by decide) (by decide)) q92a q92c (g := (mkF m 200 #[iv mk, iv xi, iv yi, .val (.long d0), .second, .val (.long d1), .second, .val (.long d2), .second, rv da, rv a, .val (.int 0), .val (.int 1), .val (.int 1), .val (.int 0), .unset, .unset] [(.ref a)])) rfl (by rw [hml]; rfl) (Steps.refl _) (argsL := []) (rest := []) (lenOf own_pd___I rfl) rfl (by show 2 * 0 + _ ≤ _; exact Nat.le_of_eq rfl) (hb hby at_200) (fun _ _ => ⟨rfl, e87, (by decide : 5 + 0 ≤ _), (by decide : 18 + 0 ≤ _)⟩)
        dsimp only [Pt.U, Pt.locs, Pt.cells, Pt.slots] at X92 l92 y92 z92 st92 hQ92
        subst l92 y92 z92
        obtain ⟨rfl, N92q, K92q, F93, F94, F95, F96, F97, F98, F99, F100, F101⟩ := hQ92
        have N92 := Fr.app N87 N92q
        refine own_S (mkF m 203 #[iv mk, iv xi, iv yi, .val (.long d0), .second, .val (.long d1), .second, .val (.long d2), .second, rv da, rv a, .val (.int 0), .val (.int 1), .val (.int 1), .val (.int 0), .unset, .unset] [(.int 1)]) (fun _ k => st92.trans k) ?_
        have F102 := F83.keep K92q (ninS (Ne.symm NE_a_da) (ninS NE_da_ha (ninS NE_da_pa nin0)))
        have F103 := F86.keep K92q (ninS (Ne.symm NE_a_oa) (ninS (Ne.symm NE_ha_oa) (ninS (Ne.symm NE_pa_oa) nin0)))
        have Z92 : n0 ≤ T92.heap.size := Nat.le_trans Z72 K92q.1
        have F104 : own_Ar Z T92.heap ha kh .int [(.int (0 : Int32)), (.int (0 : Int32)), g2] := F100
        have F105 : own_Ar Z T92.heap pa kp .int [(.int (0 : Int32)), (.int (-1 : Int32)), (.int (-1 : Int32))] := F101
        refine own_S (mkF m 205 #[iv mk, iv xi, iv yi, .val (.long d0), .second, .val (.long d1), .second, .val (.long d2), .second, rv da, rv a, .val (.int 0), .val (.int 1), .val (.int 1), .val (.int 0), .val (.int 1), .unset] []) (fun _ k => XS.istore X92.here hx rfl (hb hby at_203) rfl (l' := #[iv mk, iv xi, iv yi, .val (.long d0), .second, .val (.long d1), .second, .val (.long d2), .second, rv da, rv a, .val (.int 0), .val (.int 1), .val (.int 1), .val (.int 0), .val (.int 1), .unset]) rfl k) ?_
        refine own_S (mkF m 207 #[iv mk, iv xi, iv yi, .val (.long d0), .second, .val (.long d1), .second, .val (.long d2), .second, rv da, rv a, .val (.int 0), .val (.int 1), .val (.int 1), .val (.int 0), .val (.int 1), .unset] [(.int 1)]) (fun _ k => XS.iload X92.here hx rfl (hb hby at_205) rfl k) ?_
        refine own_S (mkF m 209 #[iv mk, iv xi, iv yi, .val (.long d0), .second, .val (.long d1), .second, .val (.long d2), .second, rv da, rv a, .val (.int 0), .val (.int 1), .val (.int 1), .val (.int 0), .val (.int 1), .unset] [(.int 1), (.int 1)]) (fun _ k => XS.iload X92.here hx rfl (hb hby at_207) rfl k) ?_
        have hc106 : (1 : Int32) = (1 : Int32) := by decide
        refine own_S (mkF m 214 #[iv mk, iv xi, iv yi, .val (.long d0), .second, .val (.long d1), .second, .val (.long d2), .second, rv da, rv a, .val (.int 0), .val (.int 1), .val (.int 1), .val (.int 0), .val (.int 1), .unset] []) (fun _ k => XS.icmpYes X92.here hx rfl (pc0 := 209) (pc' := 214) rfl (hb hby at_209) rfl (teq hc106).1 (by decide) (by decide) k) ?_
        refine own_S (mkF m 216 #[iv mk, iv xi, iv yi, .val (.long d0), .second, .val (.long d1), .second, .val (.long d2), .second, rv da, rv a, .val (.int 0), .val (.int 1), .val (.int 1), .val (.int 0), .val (.int 1), .unset] [(.ref a)]) (fun _ k => XS.aload X92.here hx rfl (hb hby at_214) rfl rfl k) ?_
        obtain ⟨cq107, kq107, q107a, q107b, q107c⟩ := isOf hZ rfl F93
        obtain ⟨_, _, ⟨T107, L107, k107, n107⟩, -, X107, ⟨Lc107, hQ107, l107, y107, z107⟩, st107⟩ := X92.virtualBack hx (y := own_y2) (z := own_y2) hown (mvT hZ (own_g hw (i := 30) rfl)) (mvT hZ (own_g hw (i := 31) rfl)) (notFace_of_selects (args := #[]) (mvT hZ (own_g hw (i := 33) rfl))) (mvT hZ (own_g hw (i := 33) rfl)) (mvT hZ (own_g hw (i := 32) rfl)) (by decide) (backOf (W := 0) (own_rmne l Z a0 hw [] (a) ((1 : Int32)) T92.heap n0 Z92 F98 (by decide)) hZ (own_g hw (i := 34) rfl) (own_g hw (i := 3) rfl) (by decide) (by decide)) q107a q107c (g := (mkF m 216 #[iv mk, iv xi, iv yi, .val (.long d0), .second, .val (.long d1), .second, .val (.long d2), .second, rv da, rv a, .val (.int 0), .val (.int 1), .val (.int 1), .val (.int 0), .val (.int 1), .unset] [(.ref a)])) rfl (by rw [hml]; rfl) (Steps.refl _) (argsL := []) (rest := []) (lenOf own_pd___Z rfl) rfl (by show 2 * 0 + _ ≤ _; exact Nat.le_of_eq rfl) (hb hby at_216) (fun _ _ => ⟨rfl, rfl, (by decide : 5 + 0 ≤ _), (by decide : 18 + 0 ≤ _)⟩)
        dsimp only [Pt.U, Pt.locs, Pt.cells, Pt.slots] at X107 l107 y107 z107 st107 hQ107
        subst l107 y107 z107
        obtain ⟨rfl, N107q, e107⟩ := hQ107
        have N107 := Fr.app N92 N107q
        refine own_S (mkF m 219 #[iv mk, iv xi, iv yi, .val (.long d0), .second, .val (.long d1), .second, .val (.long d2), .second, rv da, rv a, .val (.int 0), .val (.int 1), .val (.int 1), .val (.int 0), .val (.int 1), .unset] [(.int 0)]) (fun _ k => st107.trans k) ?_
        have hc108 : (0 : Int32) = (0 : Int32) := by decide
        refine own_S (mkF m 224 #[iv mk, iv xi, iv yi, .val (.long d0), .second, .val (.long d1), .second, .val (.long d2), .second, rv da, rv a, .val (.int 0), .val (.int 1), .val (.int 1), .val (.int 0), .val (.int 1), .unset] []) (fun _ k => XS.ifYes X107.here hx rfl (pc0 := 219) (pc' := 224) rfl (hb hby at_219) rfl ((if0 _ _).trans (teq hc108).1) (by decide) (by decide) k) ?_
        refine own_S (mkF m 226 #[iv mk, iv xi, iv yi, .val (.long d0), .second, .val (.long d1), .second, .val (.long d2), .second, rv da, rv a, .val (.int 0), .val (.int 1), .val (.int 1), .val (.int 0), .val (.int 1), .unset] [(.ref a)]) (fun _ k => XS.aload X107.here hx rfl (hb hby at_224) rfl rfl k) ?_
        obtain ⟨cq109, kq109, q109a, q109b, q109c⟩ := isOf hZ e107 F93
        obtain ⟨_, _, ⟨T109, L109, k109, n109⟩, -, X109, ⟨Lc109, hQ109, l109, y109, z109⟩, st109⟩ := X107.virtualBack hx (y := own_y9) (z := own_y9) hown (mvT hZ (own_g hw (i := 55) rfl)) (mvT hZ (own_g hw (i := 56) rfl)) (notFace_of_selects (args := #[]) (mvT hZ (own_g hw (i := 58) rfl))) (mvT hZ (own_g hw (i := 58) rfl)) (mvT hZ (own_g hw (i := 57) rfl)) (by decide) (backOf (W := 0) (own_rmpo1 l Z a0 hw [] (a) (da) (ha) (pa) (oa) (kd) (kh) (kp) (ko) ([(.long d0), (.long d1), (.long d2)]) ([(.int (0 : Int32)), (.int (0 : Int32)), g2]) ([(.int (0 : Int32)), (.int (-1 : Int32)), (.int (-1 : Int32))]) ([(.long (of + (1 : Int64))), (.long ((of + (1 : Int64)) + (1 : Int64))), (.long o2)]) (((of + (1 : Int64)) + (1 : Int64))) ((0 : Int32)) T92.heap n0 Z92 F93 F94 F95 F96 F97 F98 F99 F102 F104 F105 F103 G_a G_ha G_pa NE_a_da NE_a_ha NE_a_pa NE_a_oa NE_da_ha NE_da_pa NE_da_oa NE_ha_pa NE_ha_oa NE_pa_oa rfl (by decide) (show (0 : Nat) < 3 from by decide)) hZ (own_g hw (i := 59) rfl) (own_g hw (i := 3) rfl) (by decide) (by decide)) q109a q109c (g := (mkF m 226 #[iv mk, iv xi, iv yi, .val (.long d0), .second, .val (.long d1), .second, .val (.long d2), .second, rv da, rv a, .val (.int 0), .val (.int 1), .val (.int 1), .val (.int 0), .val (.int 1), .unset] [(.ref a)])) rfl (by rw [hml]; rfl) (Steps.refl _) (argsL := []) (rest := []) (lenOf own_pd___I rfl) rfl (by show 2 * 0 + _ ≤ _; exact Nat.le_of_eq rfl) (hb hby at_226) (fun _ _ => ⟨rfl, e107, (by decide : 5 + 0 ≤ _), (by decide : 18 + 0 ≤ _)⟩)
        dsimp only [Pt.U, Pt.locs, Pt.cells, Pt.slots] at X109 l109 y109 z109 st109 hQ109
        subst l109 y109 z109
        obtain ⟨rfl, N109q, K109q, F110, F111, F112, F113, F114, F115, F116, F117, F118⟩ := hQ109
        have N109 := Fr.app N107 N109q
        refine own_S (mkF m 229 #[iv mk, iv xi, iv yi, .val (.long d0), .second, .val (.long d1), .second, .val (.long d2), .second, rv da, rv a, .val (.int 0), .val (.int 1), .val (.int 1), .val (.int 0), .val (.int 1), .unset] [(.int 0)]) (fun _ k => st109.trans k) ?_
        have F119 := F102.keep K109q (ninS (Ne.symm NE_a_da) (ninS NE_da_ha (ninS NE_da_pa nin0)))
        have F120 := F103.keep K109q (ninS (Ne.symm NE_a_oa) (ninS (Ne.symm NE_ha_oa) (ninS (Ne.symm NE_pa_oa) nin0)))
        have Z109 : n0 ≤ T109.heap.size := Nat.le_trans Z92 K109q.1
        refine own_S (mkF m 231 #[iv mk, iv xi, iv yi, .val (.long d0), .second, .val (.long d1), .second, .val (.long d2), .second, rv da, rv a, .val (.int 0), .val (.int 1), .val (.int 1), .val (.int 0), .val (.int 1), .val (.int 0)] []) (fun _ k => XS.istore X109.here hx rfl (hb hby at_229) rfl (l' := #[iv mk, iv xi, iv yi, .val (.long d0), .second, .val (.long d1), .second, .val (.long d2), .second, rv da, rv a, .val (.int 0), .val (.int 1), .val (.int 1), .val (.int 0), .val (.int 1), .val (.int 0)]) rfl k) ?_
        refine own_S (mkF m 233 #[iv mk, iv xi, iv yi, .val (.long d0), .second, .val (.long d1), .second, .val (.long d2), .second, rv da, rv a, .val (.int 0), .val (.int 1), .val (.int 1), .val (.int 0), .val (.int 1), .val (.int 0)] [(.int 0)]) (fun _ k => XS.iload X109.here hx rfl (hb hby at_231) rfl k) ?_
        refine own_S (mkF m 235 #[iv mk, iv xi, iv yi, .val (.long d0), .second, .val (.long d1), .second, .val (.long d2), .second, rv da, rv a, .val (.int 0), .val (.int 1), .val (.int 1), .val (.int 0), .val (.int 1), .val (.int 0)] [(.int 0), (.int 0)]) (fun _ k => XS.iload X109.here hx rfl (hb hby at_233) rfl k) ?_
        have hc121 : (0 : Int32) = (0 : Int32) := by decide
        refine own_S (mkF m 238 #[iv mk, iv xi, iv yi, .val (.long d0), .second, .val (.long d1), .second, .val (.long d2), .second, rv da, rv a, .val (.int 0), .val (.int 1), .val (.int 1), .val (.int 0), .val (.int 1), .val (.int 0)] []) (fun _ k => XS.icmpNo X109.here hx rfl (hb hby at_235) rfl (teq hc121).2 k) ?_
        refine own_S (mkF m 240 #[iv mk, iv xi, iv yi, .val (.long d0), .second, .val (.long d1), .second, .val (.long d2), .second, rv da, rv a, .val (.int 0), .val (.int 1), .val (.int 1), .val (.int 0), .val (.int 1), .val (.int 0)] [(.ref a)]) (fun _ k => XS.aload X109.here hx rfl (hb hby at_238) rfl rfl k) ?_
        obtain ⟨cq122, kq122, q122a, q122b, q122c⟩ := isOf hZ rfl F110
        obtain ⟨_, _, ⟨T122, L122, k122, n122⟩, -, X122, ⟨Lc122, hQ122, l122, y122, z122⟩, st122⟩ := X109.virtualBack hx (y := own_y2) (z := own_y2) hown (mvT hZ (own_g hw (i := 30) rfl)) (mvT hZ (own_g hw (i := 31) rfl)) (notFace_of_selects (args := #[]) (mvT hZ (own_g hw (i := 33) rfl))) (mvT hZ (own_g hw (i := 33) rfl)) (mvT hZ (own_g hw (i := 32) rfl)) (by decide) (backOf (W := 0) (own_rmem l Z a0 hw [] (a) T109.heap n0 Z109 F115) hZ (own_g hw (i := 34) rfl) (own_g hw (i := 3) rfl) (by decide) (by decide)) q122a q122c (g := (mkF m 240 #[iv mk, iv xi, iv yi, .val (.long d0), .second, .val (.long d1), .second, .val (.long d2), .second, rv da, rv a, .val (.int 0), .val (.int 1), .val (.int 1), .val (.int 0), .val (.int 1), .val (.int 0)] [(.ref a)])) rfl (by rw [hml]; rfl) (Steps.refl _) (argsL := []) (rest := []) (lenOf own_pd___Z rfl) rfl (by show 2 * 0 + _ ≤ _; exact Nat.le_of_eq rfl) (hb hby at_240) (fun _ _ => ⟨rfl, rfl, (by decide : 5 + 0 ≤ _), (by decide : 18 + 0 ≤ _)⟩)
        dsimp only [Pt.U, Pt.locs, Pt.cells, Pt.slots] at X122 l122 y122 z122 st122 hQ122
        subst l122 y122 z122
        obtain ⟨rfl, N122q, e122⟩ := hQ122
        have N122 := Fr.app N109 N122q
        refine own_S (mkF m 243 #[iv mk, iv xi, iv yi, .val (.long d0), .second, .val (.long d1), .second, .val (.long d2), .second, rv da, rv a, .val (.int 0), .val (.int 1), .val (.int 1), .val (.int 0), .val (.int 1), .val (.int 0)] [(.int 1)]) (fun _ k => st122.trans k) ?_
        have hc123 : ¬ ((1 : Int32) = (0 : Int32)) := by decide
        refine own_S (mkF m 246 #[iv mk, iv xi, iv yi, .val (.long d0), .second, .val (.long d1), .second, .val (.long d2), .second, rv da, rv a, .val (.int 0), .val (.int 1), .val (.int 1), .val (.int 0), .val (.int 1), .val (.int 0)] []) (fun _ k => XS.ifNo X122.here hx rfl (hb hby at_243) rfl ((if0 _ _).trans (feq hc123).1) k) ?_
        refine own_S (mkF m 247 #[iv mk, iv xi, iv yi, .val (.long d0), .second, .val (.long d1), .second, .val (.long d2), .second, rv da, rv a, .val (.int 0), .val (.int 1), .val (.int 1), .val (.int 0), .val (.int 1), .val (.int 0)] [(.int 1)]) (fun _ k => XS.iconst X122.here hx rfl (hb hby at_246) k) ?_
        refine own_S (mkF m 251 #[iv mk, iv xi, iv yi, .val (.long d0), .second, .val (.long d1), .second, .val (.long d2), .second, rv da, rv a, .val (.int 0), .val (.int 1), .val (.int 1), .val (.int 0), .val (.int 1), .val (.int 0)] [(.int 1)]) (fun _ k => XS.goto X122.here hx rfl (pc0 := 247) (pc' := 251) rfl (hb hby at_247) (by decide) (by decide) k) ?_
        exact own_retN X122 hx hlk (t := .boolean) hret (by simp) (hb hby at_251) (by rw [e122]; exact ⟨rfl, N122, trivial⟩) (by decide) (by decide)
      ·
        obtain ⟨cq124, kq124, q124a, q124b, q124c⟩ := isOf hZ rfl F58
        obtain ⟨_, _, ⟨T124, L124, k124, n124⟩, -, X124, ⟨Lc124, hQ124, l124, y124, z124⟩, st124⟩ := X57.virtualBack hx (y := own_y6) (z := own_y6) hown (mvT hZ (own_g hw (i := 36) rfl)) (mvT hZ (own_g hw (i := 37) rfl)) (notFace_of_selects (args := #[]) (mvT hZ (own_g hw (i := 39) rfl))) (mvT hZ (own_g hw (i := 39) rfl)) (mvT hZ (own_g hw (i := 38) rfl)) (by decide) (backOf (W := 0) (own_rmof1n l Z a0 hw [] (a) (da) (ha) (pa) (oa) (kd) (kh) (kp) (ko) ([(.long d0), (.long d1), (.long d2)]) ([(.int (0 : Int32)), g1, g2]) ([(.int (0 : Int32)), (.int (-1 : Int32)), (.int (-1 : Int32))]) ([(.long (of + (1 : Int64))), (.long o1), (.long o2)]) ((1 : Int32)) ((0 : Int32)) ((of + (1 : Int64))) (d1) (d0) ((of + (1 : Int64))) T57.heap n0 Z57 F58 F59 F60 F61 F62 F63 F64 F68 F69 F70 F71 G_a G_ha G_pa G_oa NE_a_da NE_a_ha NE_a_pa NE_a_oa NE_da_ha NE_da_pa NE_da_oa NE_ha_pa NE_ha_oa NE_pa_oa (by decide) (show (1 : Nat) < 3 from by decide) (show (1 : Nat) < 3 from by decide) rfl (show (1 : Nat) < 3 from by decide) rfl (by decide) (show (0 : Nat) < 3 from by decide) (by decide) rfl rfl rfl hB) hZ (own_g hw (i := 40) rfl) (own_g hw (i := 3) rfl) (by decide) (by decide)) q124a q124c (g := (mkF m 111 #[iv mk, iv xi, iv yi, .val (.long d0), .second, .val (.long d1), .second, .val (.long d2), .second, rv da, rv a, .val (.int 0), .val (.int 1), .unset, .unset, .unset, .unset] [(.int 1), (.ref a)])) rfl (by rw [hml]; rfl) (Steps.refl _) (argsL := [(.int 1)]) (rest := []) (lenOf own_pd__I_V rfl) rfl (by show 2 * 0 + _ ≤ _; exact Nat.le_of_eq rfl) (hb hby at_111) (fun _ _ => ⟨rfl, rfl, (by decide : 5 + 0 ≤ _), (by decide : 18 + 0 ≤ _)⟩)
        dsimp only [Pt.U, Pt.locs, Pt.cells, Pt.slots] at X124 l124 y124 z124 st124 hQ124
        subst l124 y124 z124
        obtain ⟨rfl, N124q, K124q, F125, F126, F127, F128, F129, F130, F131, F132, F133, F134⟩ := hQ124
        have N124 := Fr.app N57 N124q
        refine own_S (mkF m 114 #[iv mk, iv xi, iv yi, .val (.long d0), .second, .val (.long d1), .second, .val (.long d2), .second, rv da, rv a, .val (.int 0), .val (.int 1), .unset, .unset, .unset, .unset] []) (fun _ k => st124.trans k) ?_
        have F135 := F68.keep K124q (ninS (Ne.symm NE_a_da) (ninS NE_da_ha (ninS NE_da_pa (ninS NE_da_oa nin0))))
        have Z124 : n0 ≤ T124.heap.size := Nat.le_trans Z57 K124q.1
        have F136 : own_Ar Z T124.heap ha kh .int [(.int (0 : Int32)), (.int (1 : Int32)), g2] := F132
        have F137 : own_Ar Z T124.heap pa kp .int [(.int (0 : Int32)), (.int (1 : Int32)), (.int (-1 : Int32))] := F133
        have F138 : own_Ar Z T124.heap oa ko .long [(.long (of + (1 : Int64))), (.long ((of + (1 : Int64)) + (1 : Int64))), (.long o2)] := F134
        refine own_S (mkF m 116 #[iv mk, iv xi, iv yi, .val (.long d0), .second, .val (.long d1), .second, .val (.long d2), .second, rv da, rv a, .val (.int 0), .val (.int 1), .unset, .unset, .unset, .unset] [(.ref a)]) (fun _ k => XS.aload X124.here hx rfl (hb hby at_114) rfl rfl k) ?_
        obtain ⟨cq139, kq139, q139a, q139b, q139c⟩ := isOf hZ rfl F125
        obtain ⟨_, _, ⟨T139, L139, k139, n139⟩, -, X139, ⟨Lc139, hQ139, l139, y139, z139⟩, st139⟩ := X124.virtualBack hx (y := own_y2) (z := own_y2) hown (mvT hZ (own_g hw (i := 30) rfl)) (mvT hZ (own_g hw (i := 31) rfl)) (notFace_of_selects (args := #[]) (mvT hZ (own_g hw (i := 33) rfl))) (mvT hZ (own_g hw (i := 33) rfl)) (mvT hZ (own_g hw (i := 32) rfl)) (by decide) (backOf (W := 0) (own_rmne l Z a0 hw [] (a) ((2 : Int32)) T124.heap n0 Z124 F130 (by decide)) hZ (own_g hw (i := 34) rfl) (own_g hw (i := 3) rfl) (by decide) (by decide)) q139a q139c (g := (mkF m 116 #[iv mk, iv xi, iv yi, .val (.long d0), .second, .val (.long d1), .second, .val (.long d2), .second, rv da, rv a, .val (.int 0), .val (.int 1), .unset, .unset, .unset, .unset] [(.ref a)])) rfl (by rw [hml]; rfl) (Steps.refl _) (argsL := []) (rest := []) (lenOf own_pd___Z rfl) rfl (by show 2 * 0 + _ ≤ _; exact Nat.le_of_eq rfl) (hb hby at_116) (fun _ _ => ⟨rfl, rfl, (by decide : 5 + 0 ≤ _), (by decide : 18 + 0 ≤ _)⟩)
        dsimp only [Pt.U, Pt.locs, Pt.cells, Pt.slots] at X139 l139 y139 z139 st139 hQ139
        subst l139 y139 z139
        obtain ⟨rfl, N139q, e139⟩ := hQ139
        have N139 := Fr.app N124 N139q
        refine own_S (mkF m 119 #[iv mk, iv xi, iv yi, .val (.long d0), .second, .val (.long d1), .second, .val (.long d2), .second, rv da, rv a, .val (.int 0), .val (.int 1), .unset, .unset, .unset, .unset] [(.int 0)]) (fun _ k => st139.trans k) ?_
        have hc140 : (0 : Int32) = (0 : Int32) := by decide
        refine own_S (mkF m 124 #[iv mk, iv xi, iv yi, .val (.long d0), .second, .val (.long d1), .second, .val (.long d2), .second, rv da, rv a, .val (.int 0), .val (.int 1), .unset, .unset, .unset, .unset] []) (fun _ k => XS.ifYes X139.here hx rfl (pc0 := 119) (pc' := 124) rfl (hb hby at_119) rfl ((if0 _ _).trans (teq hc140).1) (by decide) (by decide) k) ?_
        refine own_S (mkF m 126 #[iv mk, iv xi, iv yi, .val (.long d0), .second, .val (.long d1), .second, .val (.long d2), .second, rv da, rv a, .val (.int 0), .val (.int 1), .unset, .unset, .unset, .unset] [(.int 0)]) (fun _ k => XS.iload X139.here hx rfl (hb hby at_124) rfl k) ?_
        refine own_S (mkF m 128 #[iv mk, iv xi, iv yi, .val (.long d0), .second, .val (.long d1), .second, .val (.long d2), .second, rv da, rv a, .val (.int 0), .val (.int 1), .unset, .unset, .unset, .unset] [(.int 1), (.int 0)]) (fun _ k => XS.iload X139.here hx rfl (hb hby at_126) rfl k) ?_
        have hc141 : ¬ ((0 : Int32) = (1 : Int32)) := by decide
        refine own_S (mkF m 159 #[iv mk, iv xi, iv yi, .val (.long d0), .second, .val (.long d1), .second, .val (.long d2), .second, rv da, rv a, .val (.int 0), .val (.int 1), .unset, .unset, .unset, .unset] []) (fun _ k => XS.icmpYes X139.here hx rfl (pc0 := 128) (pc' := 159) rfl (hb hby at_128) rfl (feq hc141).2 (by decide) (by decide) k) ?_
        refine own_S (mkF m 161 #[iv mk, iv xi, iv yi, .val (.long d0), .second, .val (.long d1), .second, .val (.long d2), .second, rv da, rv a, .val (.int 0), .val (.int 1), .unset, .unset, .unset, .unset] [(.ref da)]) (fun _ k => XS.aload X139.here hx rfl (hb hby at_159) rfl rfl k) ?_
        refine own_S (mkF m 163 #[iv mk, iv xi, iv yi, .val (.long d0), .second, .val (.long d1), .second, .val (.long d2), .second, rv da, rv a, .val (.int 0), .val (.int 1), .unset, .unset, .unset, .unset] [(.int 0), (.ref da)]) (fun _ k => XS.iload X139.here hx rfl (hb hby at_161) rfl k) ?_
        refine own_S (mkF m 164 #[iv mk, iv xi, iv yi, .val (.long d0), .second, .val (.long d1), .second, .val (.long d2), .second, rv da, rv a, .val (.int 0), .val (.int 1), .unset, .unset, .unset, .unset] [(.long d0)]) (fun _ k => own_ldJ X139 hx hZ e139 F135 (by decide) rfl (g := (mkF m 163 #[iv mk, iv xi, iv yi, .val (.long d0), .second, .val (.long d1), .second, .val (.long d2), .second, rv da, rv a, .val (.int 0), .val (.int 1), .unset, .unset, .unset, .unset] [(.int 0), (.ref da)])) rfl rfl (hb hby at_163) _ k) ?_
        refine own_S (mkF m 166 #[iv mk, iv xi, iv yi, .val (.long d0), .second, .val (.long d1), .second, .val (.long d2), .second, rv da, rv a, .val (.int 0), .val (.int 1), .unset, .unset, .unset, .unset] [(.ref da), (.long d0)]) (fun _ k => XS.aload X139.here hx rfl (hb hby at_164) rfl rfl k) ?_
        refine own_S (mkF m 168 #[iv mk, iv xi, iv yi, .val (.long d0), .second, .val (.long d1), .second, .val (.long d2), .second, rv da, rv a, .val (.int 0), .val (.int 1), .unset, .unset, .unset, .unset] [(.int 1), (.ref da), (.long d0)]) (fun _ k => XS.iload X139.here hx rfl (hb hby at_166) rfl k) ?_
        refine own_S (mkF m 169 #[iv mk, iv xi, iv yi, .val (.long d0), .second, .val (.long d1), .second, .val (.long d2), .second, rv da, rv a, .val (.int 0), .val (.int 1), .unset, .unset, .unset, .unset] [(.long d1), (.long d0)]) (fun _ k => own_ldJ X139 hx hZ e139 F135 (by decide) rfl (g := (mkF m 168 #[iv mk, iv xi, iv yi, .val (.long d0), .second, .val (.long d1), .second, .val (.long d2), .second, rv da, rv a, .val (.int 0), .val (.int 1), .unset, .unset, .unset, .unset] [(.int 1), (.ref da), (.long d0)])) rfl rfl (hb hby at_168) _ k) ?_
        refine own_S (mkF m 170 #[iv mk, iv xi, iv yi, .val (.long d0), .second, .val (.long d1), .second, .val (.long d2), .second, rv da, rv a, .val (.int 0), .val (.int 1), .unset, .unset, .unset, .unset] [(.int (lcmpW d0 d1))]) (fun _ k => XS.lcmp X139.here hx rfl (hb hby at_169) rfl k) ?_
        have hc142 : d0 < d1 := (own_lt hof hB)
        refine own_S (mkF m 173 #[iv mk, iv xi, iv yi, .val (.long d0), .second, .val (.long d1), .second, .val (.long d2), .second, rv da, rv a, .val (.int 0), .val (.int 1), .unset, .unset, .unset, .unset] []) (fun _ k => XS.ifNo X139.here hx rfl (hb hby at_170) rfl ((if0 _ _).trans (tlt ((lw_lt d0 d1).mpr hc142)).2.1) k) ?_
        refine own_S (mkF m 175 #[iv mk, iv xi, iv yi, .val (.long d0), .second, .val (.long d1), .second, .val (.long d2), .second, rv da, rv a, .val (.int 0), .val (.int 1), .unset, .unset, .unset, .unset] [(.int 0)]) (fun _ k => XS.iload X139.here hx rfl (hb hby at_173) rfl k) ?_
        refine own_S (mkF m 180 #[iv mk, iv xi, iv yi, .val (.long d0), .second, .val (.long d1), .second, .val (.long d2), .second, rv da, rv a, .val (.int 0), .val (.int 1), .unset, .unset, .unset, .unset] [(.int 0)]) (fun _ k => XS.goto X139.here hx rfl (pc0 := 175) (pc' := 180) rfl (hb hby at_175) (by decide) (by decide) k) ?_
        refine own_S (mkF m 182 #[iv mk, iv xi, iv yi, .val (.long d0), .second, .val (.long d1), .second, .val (.long d2), .second, rv da, rv a, .val (.int 0), .val (.int 1), .val (.int 0), .unset, .unset, .unset] []) (fun _ k => XS.istore X139.here hx rfl (hb hby at_180) rfl (l' := #[iv mk, iv xi, iv yi, .val (.long d0), .second, .val (.long d1), .second, .val (.long d2), .second, rv da, rv a, .val (.int 0), .val (.int 1), .val (.int 0), .unset, .unset, .unset]) rfl k) ?_
        refine own_S (mkF m 184 #[iv mk, iv xi, iv yi, .val (.long d0), .second, .val (.long d1), .second, .val (.long d2), .second, rv da, rv a, .val (.int 0), .val (.int 1), .val (.int 0), .unset, .unset, .unset] [(.int 0)]) (fun _ k => XS.iload X139.here hx rfl (hb hby at_182) rfl k) ?_
        refine own_S (mkF m 186 #[iv mk, iv xi, iv yi, .val (.long d0), .second, .val (.long d1), .second, .val (.long d2), .second, rv da, rv a, .val (.int 0), .val (.int 1), .val (.int 0), .unset, .unset, .unset] [(.int 0), (.int 0)]) (fun _ k => XS.iload X139.here hx rfl (hb hby at_184) rfl k) ?_
        have hc143 : (0 : Int32) = (0 : Int32) := by decide
        refine own_S (mkF m 189 #[iv mk, iv xi, iv yi, .val (.long d0), .second, .val (.long d1), .second, .val (.long d2), .second, rv da, rv a, .val (.int 0), .val (.int 1), .val (.int 0), .unset, .unset, .unset] []) (fun _ k => XS.icmpNo X139.here hx rfl (hb hby at_186) rfl (teq hc143).2 k) ?_
        refine own_S (mkF m 191 #[iv mk, iv xi, iv yi, .val (.long d0), .second, .val (.long d1), .second, .val (.long d2), .second, rv da, rv a, .val (.int 0), .val (.int 1), .val (.int 0), .unset, .unset, .unset] [(.int 1)]) (fun _ k => XS.iload X139.here hx rfl (hb hby at_189) rfl k) ?_
        refine own_S (mkF m 196 #[iv mk, iv xi, iv yi, .val (.long d0), .second, .val (.long d1), .second, .val (.long d2), .second, rv da, rv a, .val (.int 0), .val (.int 1), .val (.int 0), .unset, .unset, .unset] [(.int 1)]) (fun _ k => XS.goto X139.here hx rfl (pc0 := 191) (pc' := 196) rfl (hb hby at_191) (by decide) (by decide) k) ?_
        refine own_S (mkF m 198 #[iv mk, iv xi, iv yi, .val (.long d0), .second, .val (.long d1), .second, .val (.long d2), .second, rv da, rv a, .val (.int 0), .val (.int 1), .val (.int 0), .val (.int 1), .unset, .unset] []) (fun _ k => XS.istore X139.here hx rfl (hb hby at_196) rfl (l' := #[iv mk, iv xi, iv yi, .val (.long d0), .second, .val (.long d1), .second, .val (.long d2), .second, rv da, rv a, .val (.int 0), .val (.int 1), .val (.int 0), .val (.int 1), .unset, .unset]) rfl k) ?_
        refine own_S (mkF m 200 #[iv mk, iv xi, iv yi, .val (.long d0), .second, .val (.long d1), .second, .val (.long d2), .second, rv da, rv a, .val (.int 0), .val (.int 1), .val (.int 0), .val (.int 1), .unset, .unset] [(.ref a)]) (fun _ k => XS.aload X139.here hx rfl (hb hby at_198) rfl rfl k) ?_
        obtain ⟨cq144, kq144, q144a, q144b, q144c⟩ := isOf hZ e139 F125
        obtain ⟨_, _, ⟨T144, L144, k144, n144⟩, -, X144, ⟨Lc144, hQ144, l144, y144, z144⟩, st144⟩ := X139.virtualBack hx (y := own_y9) (z := own_y9) hown (mvT hZ (own_g hw (i := 55) rfl)) (mvT hZ (own_g hw (i := 56) rfl)) (notFace_of_selects (args := #[]) (mvT hZ (own_g hw (i := 58) rfl))) (mvT hZ (own_g hw (i := 58) rfl)) (mvT hZ (own_g hw (i := 57) rfl)) (by decide) (backOf (W := 0) (own_rmpo2 l Z a0 hw [] (a) (da) (ha) (pa) (oa) (kd) (kh) (kp) (ko) ([(.long d0), (.long d1), (.long d2)]) ([(.int (0 : Int32)), (.int (1 : Int32)), g2]) ([(.int (0 : Int32)), (.int (1 : Int32)), (.int (-1 : Int32))]) ([(.long (of + (1 : Int64))), (.long ((of + (1 : Int64)) + (1 : Int64))), (.long o2)]) (((of + (1 : Int64)) + (1 : Int64))) ((0 : Int32)) ((1 : Int32)) T124.heap n0 Z124 F125 F126 F127 F128 F129 F130 F131 F135 F136 F137 F138 G_a G_ha G_pa NE_a_da NE_a_ha NE_a_pa NE_a_oa NE_da_ha NE_da_pa NE_da_oa NE_ha_pa NE_ha_oa NE_pa_oa rfl (by decide) (show (0 : Nat) < 3 from by decide) rfl (by decide) (show (1 : Nat) < 3 from by decide)) hZ (own_g hw (i := 59) rfl) (own_g hw (i := 3) rfl) (by decide) (by decide)) q144a q144c (g := (mkF m 200 #[iv mk, iv xi, iv yi, .val (.long d0), .second, .val (.long d1), .second, .val (.long d2), .second, rv da, rv a, .val (.int 0), .val (.int 1), .val (.int 0), .val (.int 1), .unset, .unset] [(.ref a)])) rfl (by rw [hml]; rfl) (Steps.refl _) (argsL := []) (rest := []) (lenOf own_pd___I rfl) rfl (by show 2 * 0 + _ ≤ _; exact Nat.le_of_eq rfl) (hb hby at_200) (fun _ _ => ⟨rfl, e139, (by decide : 5 + 0 ≤ _), (by decide : 18 + 0 ≤ _)⟩)
        dsimp only [Pt.U, Pt.locs, Pt.cells, Pt.slots] at X144 l144 y144 z144 st144 hQ144
        subst l144 y144 z144
        obtain ⟨rfl, N144q, K144q, F145, F146, F147, F148, F149, F150, F151, F152, F153⟩ := hQ144
        have N144 := Fr.app N139 N144q
        refine own_S (mkF m 203 #[iv mk, iv xi, iv yi, .val (.long d0), .second, .val (.long d1), .second, .val (.long d2), .second, rv da, rv a, .val (.int 0), .val (.int 1), .val (.int 0), .val (.int 1), .unset, .unset] [(.int 0)]) (fun _ k => st144.trans k) ?_
        have F154 := F135.keep K144q (ninS (Ne.symm NE_a_da) (ninS NE_da_ha (ninS NE_da_pa nin0)))
        have F155 := F138.keep K144q (ninS (Ne.symm NE_a_oa) (ninS (Ne.symm NE_ha_oa) (ninS (Ne.symm NE_pa_oa) nin0)))
        have Z144 : n0 ≤ T144.heap.size := Nat.le_trans Z124 K144q.1
        have F156 : own_Ar Z T144.heap ha kh .int [(.int (1 : Int32)), (.int (1 : Int32)), g2] := F152
        have F157 : own_Ar Z T144.heap pa kp .int [(.int (-1 : Int32)), (.int (0 : Int32)), (.int (-1 : Int32))] := F153
        refine own_S (mkF m 205 #[iv mk, iv xi, iv yi, .val (.long d0), .second, .val (.long d1), .second, .val (.long d2), .second, rv da, rv a, .val (.int 0), .val (.int 1), .val (.int 0), .val (.int 1), .val (.int 0), .unset] []) (fun _ k => XS.istore X144.here hx rfl (hb hby at_203) rfl (l' := #[iv mk, iv xi, iv yi, .val (.long d0), .second, .val (.long d1), .second, .val (.long d2), .second, rv da, rv a, .val (.int 0), .val (.int 1), .val (.int 0), .val (.int 1), .val (.int 0), .unset]) rfl k) ?_
        refine own_S (mkF m 207 #[iv mk, iv xi, iv yi, .val (.long d0), .second, .val (.long d1), .second, .val (.long d2), .second, rv da, rv a, .val (.int 0), .val (.int 1), .val (.int 0), .val (.int 1), .val (.int 0), .unset] [(.int 0)]) (fun _ k => XS.iload X144.here hx rfl (hb hby at_205) rfl k) ?_
        refine own_S (mkF m 209 #[iv mk, iv xi, iv yi, .val (.long d0), .second, .val (.long d1), .second, .val (.long d2), .second, rv da, rv a, .val (.int 0), .val (.int 1), .val (.int 0), .val (.int 1), .val (.int 0), .unset] [(.int 0), (.int 0)]) (fun _ k => XS.iload X144.here hx rfl (hb hby at_207) rfl k) ?_
        have hc158 : (0 : Int32) = (0 : Int32) := by decide
        refine own_S (mkF m 214 #[iv mk, iv xi, iv yi, .val (.long d0), .second, .val (.long d1), .second, .val (.long d2), .second, rv da, rv a, .val (.int 0), .val (.int 1), .val (.int 0), .val (.int 1), .val (.int 0), .unset] []) (fun _ k => XS.icmpYes X144.here hx rfl (pc0 := 209) (pc' := 214) rfl (hb hby at_209) rfl (teq hc158).1 (by decide) (by decide) k) ?_
        refine own_S (mkF m 216 #[iv mk, iv xi, iv yi, .val (.long d0), .second, .val (.long d1), .second, .val (.long d2), .second, rv da, rv a, .val (.int 0), .val (.int 1), .val (.int 0), .val (.int 1), .val (.int 0), .unset] [(.ref a)]) (fun _ k => XS.aload X144.here hx rfl (hb hby at_214) rfl rfl k) ?_
        obtain ⟨cq159, kq159, q159a, q159b, q159c⟩ := isOf hZ rfl F145
        obtain ⟨_, _, ⟨T159, L159, k159, n159⟩, -, X159, ⟨Lc159, hQ159, l159, y159, z159⟩, st159⟩ := X144.virtualBack hx (y := own_y2) (z := own_y2) hown (mvT hZ (own_g hw (i := 30) rfl)) (mvT hZ (own_g hw (i := 31) rfl)) (notFace_of_selects (args := #[]) (mvT hZ (own_g hw (i := 33) rfl))) (mvT hZ (own_g hw (i := 33) rfl)) (mvT hZ (own_g hw (i := 32) rfl)) (by decide) (backOf (W := 0) (own_rmne l Z a0 hw [] (a) ((1 : Int32)) T144.heap n0 Z144 F150 (by decide)) hZ (own_g hw (i := 34) rfl) (own_g hw (i := 3) rfl) (by decide) (by decide)) q159a q159c (g := (mkF m 216 #[iv mk, iv xi, iv yi, .val (.long d0), .second, .val (.long d1), .second, .val (.long d2), .second, rv da, rv a, .val (.int 0), .val (.int 1), .val (.int 0), .val (.int 1), .val (.int 0), .unset] [(.ref a)])) rfl (by rw [hml]; rfl) (Steps.refl _) (argsL := []) (rest := []) (lenOf own_pd___Z rfl) rfl (by show 2 * 0 + _ ≤ _; exact Nat.le_of_eq rfl) (hb hby at_216) (fun _ _ => ⟨rfl, rfl, (by decide : 5 + 0 ≤ _), (by decide : 18 + 0 ≤ _)⟩)
        dsimp only [Pt.U, Pt.locs, Pt.cells, Pt.slots] at X159 l159 y159 z159 st159 hQ159
        subst l159 y159 z159
        obtain ⟨rfl, N159q, e159⟩ := hQ159
        have N159 := Fr.app N144 N159q
        refine own_S (mkF m 219 #[iv mk, iv xi, iv yi, .val (.long d0), .second, .val (.long d1), .second, .val (.long d2), .second, rv da, rv a, .val (.int 0), .val (.int 1), .val (.int 0), .val (.int 1), .val (.int 0), .unset] [(.int 0)]) (fun _ k => st159.trans k) ?_
        have hc160 : (0 : Int32) = (0 : Int32) := by decide
        refine own_S (mkF m 224 #[iv mk, iv xi, iv yi, .val (.long d0), .second, .val (.long d1), .second, .val (.long d2), .second, rv da, rv a, .val (.int 0), .val (.int 1), .val (.int 0), .val (.int 1), .val (.int 0), .unset] []) (fun _ k => XS.ifYes X159.here hx rfl (pc0 := 219) (pc' := 224) rfl (hb hby at_219) rfl ((if0 _ _).trans (teq hc160).1) (by decide) (by decide) k) ?_
        refine own_S (mkF m 226 #[iv mk, iv xi, iv yi, .val (.long d0), .second, .val (.long d1), .second, .val (.long d2), .second, rv da, rv a, .val (.int 0), .val (.int 1), .val (.int 0), .val (.int 1), .val (.int 0), .unset] [(.ref a)]) (fun _ k => XS.aload X159.here hx rfl (hb hby at_224) rfl rfl k) ?_
        obtain ⟨cq161, kq161, q161a, q161b, q161c⟩ := isOf hZ e159 F145
        obtain ⟨_, _, ⟨T161, L161, k161, n161⟩, -, X161, ⟨Lc161, hQ161, l161, y161, z161⟩, st161⟩ := X159.virtualBack hx (y := own_y9) (z := own_y9) hown (mvT hZ (own_g hw (i := 55) rfl)) (mvT hZ (own_g hw (i := 56) rfl)) (notFace_of_selects (args := #[]) (mvT hZ (own_g hw (i := 58) rfl))) (mvT hZ (own_g hw (i := 58) rfl)) (mvT hZ (own_g hw (i := 57) rfl)) (by decide) (backOf (W := 0) (own_rmpo1 l Z a0 hw [] (a) (da) (ha) (pa) (oa) (kd) (kh) (kp) (ko) ([(.long d0), (.long d1), (.long d2)]) ([(.int (1 : Int32)), (.int (1 : Int32)), g2]) ([(.int (-1 : Int32)), (.int (0 : Int32)), (.int (-1 : Int32))]) ([(.long (of + (1 : Int64))), (.long ((of + (1 : Int64)) + (1 : Int64))), (.long o2)]) (((of + (1 : Int64)) + (1 : Int64))) ((1 : Int32)) T144.heap n0 Z144 F145 F146 F147 F148 F149 F150 F151 F154 F156 F157 F155 G_a G_ha G_pa NE_a_da NE_a_ha NE_a_pa NE_a_oa NE_da_ha NE_da_pa NE_da_oa NE_ha_pa NE_ha_oa NE_pa_oa rfl (by decide) (show (1 : Nat) < 3 from by decide)) hZ (own_g hw (i := 59) rfl) (own_g hw (i := 3) rfl) (by decide) (by decide)) q161a q161c (g := (mkF m 226 #[iv mk, iv xi, iv yi, .val (.long d0), .second, .val (.long d1), .second, .val (.long d2), .second, rv da, rv a, .val (.int 0), .val (.int 1), .val (.int 0), .val (.int 1), .val (.int 0), .unset] [(.ref a)])) rfl (by rw [hml]; rfl) (Steps.refl _) (argsL := []) (rest := []) (lenOf own_pd___I rfl) rfl (by show 2 * 0 + _ ≤ _; exact Nat.le_of_eq rfl) (hb hby at_226) (fun _ _ => ⟨rfl, e159, (by decide : 5 + 0 ≤ _), (by decide : 18 + 0 ≤ _)⟩)
        dsimp only [Pt.U, Pt.locs, Pt.cells, Pt.slots] at X161 l161 y161 z161 st161 hQ161
        subst l161 y161 z161
        obtain ⟨rfl, N161q, K161q, F162, F163, F164, F165, F166, F167, F168, F169, F170⟩ := hQ161
        have N161 := Fr.app N159 N161q
        refine own_S (mkF m 229 #[iv mk, iv xi, iv yi, .val (.long d0), .second, .val (.long d1), .second, .val (.long d2), .second, rv da, rv a, .val (.int 0), .val (.int 1), .val (.int 0), .val (.int 1), .val (.int 0), .unset] [(.int 1)]) (fun _ k => st161.trans k) ?_
        have F171 := F154.keep K161q (ninS (Ne.symm NE_a_da) (ninS NE_da_ha (ninS NE_da_pa nin0)))
        have F172 := F155.keep K161q (ninS (Ne.symm NE_a_oa) (ninS (Ne.symm NE_ha_oa) (ninS (Ne.symm NE_pa_oa) nin0)))
        have Z161 : n0 ≤ T161.heap.size := Nat.le_trans Z144 K161q.1
        refine own_S (mkF m 231 #[iv mk, iv xi, iv yi, .val (.long d0), .second, .val (.long d1), .second, .val (.long d2), .second, rv da, rv a, .val (.int 0), .val (.int 1), .val (.int 0), .val (.int 1), .val (.int 0), .val (.int 1)] []) (fun _ k => XS.istore X161.here hx rfl (hb hby at_229) rfl (l' := #[iv mk, iv xi, iv yi, .val (.long d0), .second, .val (.long d1), .second, .val (.long d2), .second, rv da, rv a, .val (.int 0), .val (.int 1), .val (.int 0), .val (.int 1), .val (.int 0), .val (.int 1)]) rfl k) ?_
        refine own_S (mkF m 233 #[iv mk, iv xi, iv yi, .val (.long d0), .second, .val (.long d1), .second, .val (.long d2), .second, rv da, rv a, .val (.int 0), .val (.int 1), .val (.int 0), .val (.int 1), .val (.int 0), .val (.int 1)] [(.int 1)]) (fun _ k => XS.iload X161.here hx rfl (hb hby at_231) rfl k) ?_
        refine own_S (mkF m 235 #[iv mk, iv xi, iv yi, .val (.long d0), .second, .val (.long d1), .second, .val (.long d2), .second, rv da, rv a, .val (.int 0), .val (.int 1), .val (.int 0), .val (.int 1), .val (.int 0), .val (.int 1)] [(.int 1), (.int 1)]) (fun _ k => XS.iload X161.here hx rfl (hb hby at_233) rfl k) ?_
        have hc173 : (1 : Int32) = (1 : Int32) := by decide
        refine own_S (mkF m 238 #[iv mk, iv xi, iv yi, .val (.long d0), .second, .val (.long d1), .second, .val (.long d2), .second, rv da, rv a, .val (.int 0), .val (.int 1), .val (.int 0), .val (.int 1), .val (.int 0), .val (.int 1)] []) (fun _ k => XS.icmpNo X161.here hx rfl (hb hby at_235) rfl (teq hc173).2 k) ?_
        refine own_S (mkF m 240 #[iv mk, iv xi, iv yi, .val (.long d0), .second, .val (.long d1), .second, .val (.long d2), .second, rv da, rv a, .val (.int 0), .val (.int 1), .val (.int 0), .val (.int 1), .val (.int 0), .val (.int 1)] [(.ref a)]) (fun _ k => XS.aload X161.here hx rfl (hb hby at_238) rfl rfl k) ?_
        obtain ⟨cq174, kq174, q174a, q174b, q174c⟩ := isOf hZ rfl F162
        obtain ⟨_, _, ⟨T174, L174, k174, n174⟩, -, X174, ⟨Lc174, hQ174, l174, y174, z174⟩, st174⟩ := X161.virtualBack hx (y := own_y2) (z := own_y2) hown (mvT hZ (own_g hw (i := 30) rfl)) (mvT hZ (own_g hw (i := 31) rfl)) (notFace_of_selects (args := #[]) (mvT hZ (own_g hw (i := 33) rfl))) (mvT hZ (own_g hw (i := 33) rfl)) (mvT hZ (own_g hw (i := 32) rfl)) (by decide) (backOf (W := 0) (own_rmem l Z a0 hw [] (a) T161.heap n0 Z161 F167) hZ (own_g hw (i := 34) rfl) (own_g hw (i := 3) rfl) (by decide) (by decide)) q174a q174c (g := (mkF m 240 #[iv mk, iv xi, iv yi, .val (.long d0), .second, .val (.long d1), .second, .val (.long d2), .second, rv da, rv a, .val (.int 0), .val (.int 1), .val (.int 0), .val (.int 1), .val (.int 0), .val (.int 1)] [(.ref a)])) rfl (by rw [hml]; rfl) (Steps.refl _) (argsL := []) (rest := []) (lenOf own_pd___Z rfl) rfl (by show 2 * 0 + _ ≤ _; exact Nat.le_of_eq rfl) (hb hby at_240) (fun _ _ => ⟨rfl, rfl, (by decide : 5 + 0 ≤ _), (by decide : 18 + 0 ≤ _)⟩)
        dsimp only [Pt.U, Pt.locs, Pt.cells, Pt.slots] at X174 l174 y174 z174 st174 hQ174
        subst l174 y174 z174
        obtain ⟨rfl, N174q, e174⟩ := hQ174
        have N174 := Fr.app N161 N174q
        refine own_S (mkF m 243 #[iv mk, iv xi, iv yi, .val (.long d0), .second, .val (.long d1), .second, .val (.long d2), .second, rv da, rv a, .val (.int 0), .val (.int 1), .val (.int 0), .val (.int 1), .val (.int 0), .val (.int 1)] [(.int 1)]) (fun _ k => st174.trans k) ?_
        have hc175 : ¬ ((1 : Int32) = (0 : Int32)) := by decide
        refine own_S (mkF m 246 #[iv mk, iv xi, iv yi, .val (.long d0), .second, .val (.long d1), .second, .val (.long d2), .second, rv da, rv a, .val (.int 0), .val (.int 1), .val (.int 0), .val (.int 1), .val (.int 0), .val (.int 1)] []) (fun _ k => XS.ifNo X174.here hx rfl (hb hby at_243) rfl ((if0 _ _).trans (feq hc175).1) k) ?_
        refine own_S (mkF m 247 #[iv mk, iv xi, iv yi, .val (.long d0), .second, .val (.long d1), .second, .val (.long d2), .second, rv da, rv a, .val (.int 0), .val (.int 1), .val (.int 0), .val (.int 1), .val (.int 0), .val (.int 1)] [(.int 1)]) (fun _ k => XS.iconst X174.here hx rfl (hb hby at_246) k) ?_
        refine own_S (mkF m 251 #[iv mk, iv xi, iv yi, .val (.long d0), .second, .val (.long d1), .second, .val (.long d2), .second, rv da, rv a, .val (.int 0), .val (.int 1), .val (.int 0), .val (.int 1), .val (.int 0), .val (.int 1)] [(.int 1)]) (fun _ k => XS.goto X174.here hx rfl (pc0 := 247) (pc' := 251) rfl (hb hby at_247) (by decide) (by decide) k) ?_
        exact own_retN X174 hx hlk (t := .boolean) hret (by simp) (hb hby at_251) (by rw [e174]; exact ⟨rfl, N174, trivial⟩) (by decide) (by decide)
    · -- bv = 2
      subst q8_2
      obtain ⟨cq176, kq176, q176a, q176b, q176c⟩ := isOf hZ e1 P0
      obtain ⟨_, _, ⟨T176, L176, k176, n176⟩, -, X176, ⟨Lc176, hQ176, l176, y176, z176⟩, st176⟩ := X1.virtualBack hx (y := own_y6) (z := own_y6) hown (mvT hZ (own_g hw (i := 36) rfl)) (mvT hZ (own_g hw (i := 37) rfl)) (notFace_of_selects (args := #[]) (mvT hZ (own_g hw (i := 39) rfl))) (mvT hZ (own_g hw (i := 39) rfl)) (mvT hZ (own_g hw (i := 38) rfl)) (by decide) (backOf (W := 0) (own_rmofA l Z a0 hw [] (a) (da) (ha) (pa) (oa) (kd) (kh) (kp) (ko) ([(.long d0), (.long d1), (.long d2)]) ([g0, g1, g2]) ([(.int (-1 : Int32)), (.int (-1 : Int32)), (.int (-1 : Int32))]) ([(.long o0), (.long o1), (.long o2)]) ((0 : Int32)) (of) hh n0 Z0 P0 P1 P2 P3 P4 P5 P6 P7 P8 P9 P10 G_a G_ha G_pa G_oa NE_a_da NE_a_ha NE_a_pa NE_a_oa NE_da_ha NE_da_pa NE_da_oa NE_ha_pa NE_ha_oa NE_pa_oa (by decide) (show (0 : Nat) < 3 from by decide) (show (0 : Nat) < 3 from by decide) rfl (show (0 : Nat) < 3 from by decide)) hZ (own_g hw (i := 40) rfl) (own_g hw (i := 3) rfl) (by decide) (by decide)) q176a q176c (g := (mkF m 104 #[iv mk, iv xi, iv yi, .val (.long d0), .second, .val (.long d1), .second, .val (.long d2), .second, rv da, rv a, .val (.int 0), .val (.int 2), .unset, .unset, .unset, .unset] [(.int 0), (.ref a)])) rfl (by rw [hml]; rfl) (Steps.refl _) (argsL := [(.int 0)]) (rest := []) (lenOf own_pd__I_V rfl) rfl (by show 2 * 0 + _ ≤ _; exact Nat.le_of_eq rfl) (hb hby at_104) (fun _ _ => ⟨rfl, e1, (by decide : 5 + 0 ≤ _), (by decide : 18 + 0 ≤ _)⟩)
      dsimp only [Pt.U, Pt.locs, Pt.cells, Pt.slots] at X176 l176 y176 z176 st176 hQ176
      subst l176 y176 z176
      obtain ⟨rfl, N176q, K176q, F177, F178, F179, F180, F181, F182, F183, F184, F185, F186⟩ := hQ176
      have N176 := Fr.app N1 N176q
      refine own_S (mkF m 107 #[iv mk, iv xi, iv yi, .val (.long d0), .second, .val (.long d1), .second, .val (.long d2), .second, rv da, rv a, .val (.int 0), .val (.int 2), .unset, .unset, .unset, .unset] []) (fun _ k => st176.trans k) ?_
      have F187 := P7.keep K176q (ninS (Ne.symm NE_a_da) (ninS NE_da_ha (ninS NE_da_pa (ninS NE_da_oa nin0))))
      have Z176 : n0 ≤ T176.heap.size := Nat.le_trans Z0 K176q.1
      have F188 : own_Ar Z T176.heap ha kh .int [(.int (0 : Int32)), g1, g2] := F184
      have F189 : own_Ar Z T176.heap pa kp .int [(.int (0 : Int32)), (.int (-1 : Int32)), (.int (-1 : Int32))] := F185
      have F190 : own_Ar Z T176.heap oa ko .long [(.long (of + (1 : Int64))), (.long o1), (.long o2)] := F186
      refine own_S (mkF m 109 #[iv mk, iv xi, iv yi, .val (.long d0), .second, .val (.long d1), .second, .val (.long d2), .second, rv da, rv a, .val (.int 0), .val (.int 2), .unset, .unset, .unset, .unset] [(.ref a)]) (fun _ k => XS.aload X176.here hx rfl (hb hby at_107) rfl rfl k) ?_
      refine own_S (mkF m 111 #[iv mk, iv xi, iv yi, .val (.long d0), .second, .val (.long d1), .second, .val (.long d2), .second, rv da, rv a, .val (.int 0), .val (.int 2), .unset, .unset, .unset, .unset] [(.int 2), (.ref a)]) (fun _ k => XS.iload X176.here hx rfl (hb hby at_109) rfl k) ?_
      by_cases hB : (d2 < d0 ∨ (d2 = d0 ∧ (of + (1 : Int64)) < ((of + (1 : Int64)) + (1 : Int64))))
      ·
        obtain ⟨cq191, kq191, q191a, q191b, q191c⟩ := isOf hZ rfl F177
        obtain ⟨_, _, ⟨T191, L191, k191, n191⟩, -, X191, ⟨Lc191, hQ191, l191, y191, z191⟩, st191⟩ := X176.virtualBack hx (y := own_y6) (z := own_y6) hown (mvT hZ (own_g hw (i := 36) rfl)) (mvT hZ (own_g hw (i := 37) rfl)) (notFace_of_selects (args := #[]) (mvT hZ (own_g hw (i := 39) rfl))) (mvT hZ (own_g hw (i := 39) rfl)) (mvT hZ (own_g hw (i := 38) rfl)) (by decide) (backOf (W := 0) (own_rmof1m l Z a0 hw [] (a) (da) (ha) (pa) (oa) (kd) (kh) (kp) (ko) ([(.long d0), (.long d1), (.long d2)]) ([(.int (0 : Int32)), g1, g2]) ([(.int (0 : Int32)), (.int (-1 : Int32)), (.int (-1 : Int32))]) ([(.long (of + (1 : Int64))), (.long o1), (.long o2)]) ((2 : Int32)) ((0 : Int32)) ((of + (1 : Int64))) (d2) (d0) ((of + (1 : Int64))) T176.heap n0 Z176 F177 F178 F179 F180 F181 F182 F183 F187 F188 F189 F190 G_a G_ha G_pa G_oa NE_a_da NE_a_ha NE_a_pa NE_a_oa NE_da_ha NE_da_pa NE_da_oa NE_ha_pa NE_ha_oa NE_pa_oa (by decide) (show (2 : Nat) < 3 from by decide) (show (2 : Nat) < 3 from by decide) rfl (show (1 : Nat) < 3 from by decide) rfl (by decide) (show (0 : Nat) < 3 from by decide) (by decide) rfl rfl rfl hB) hZ (own_g hw (i := 40) rfl) (own_g hw (i := 3) rfl) (by decide) (by decide)) q191a q191c (g := (mkF m 111 #[iv mk, iv xi, iv yi, .val (.long d0), .second, .val (.long d1), .second, .val (.long d2), .second, rv da, rv a, .val (.int 0), .val (.int 2), .unset, .unset, .unset, .unset] [(.int 2), (.ref a)])) rfl (by rw [hml]; rfl) (Steps.refl _) (argsL := [(.int 2)]) (rest := []) (lenOf own_pd__I_V rfl) rfl (by show 2 * 0 + _ ≤ _; exact Nat.le_of_eq rfl) (hb hby at_111) (fun _ _ => ⟨rfl, rfl, (by decide : 5 + 0 ≤ _), (by decide : 18 + 0 ≤ _)⟩)
        dsimp only [Pt.U, Pt.locs, Pt.cells, Pt.slots] at X191 l191 y191 z191 st191 hQ191
        subst l191 y191 z191
        obtain ⟨rfl, N191q, K191q, F192, F193, F194, F195, F196, F197, F198, F199, F200, F201⟩ := hQ191
        have N191 := Fr.app N176 N191q
        refine own_S (mkF m 114 #[iv mk, iv xi, iv yi, .val (.long d0), .second, .val (.long d1), .second, .val (.long d2), .second, rv da, rv a, .val (.int 0), .val (.int 2), .unset, .unset, .unset, .unset] []) (fun _ k => st191.trans k) ?_
        have F202 := F187.keep K191q (ninS (Ne.symm NE_a_da) (ninS NE_da_ha (ninS NE_da_pa (ninS NE_da_oa nin0))))
        have Z191 : n0 ≤ T191.heap.size := Nat.le_trans Z176 K191q.1
        have F203 : own_Ar Z T191.heap ha kh .int [(.int (2 : Int32)), (.int (0 : Int32)), g2] := F199
        have F204 : own_Ar Z T191.heap pa kp .int [(.int (1 : Int32)), (.int (-1 : Int32)), (.int (0 : Int32))] := F200
        have F205 : own_Ar Z T191.heap oa ko .long [(.long (of + (1 : Int64))), (.long o1), (.long ((of + (1 : Int64)) + (1 : Int64)))] := F201
        refine own_S (mkF m 116 #[iv mk, iv xi, iv yi, .val (.long d0), .second, .val (.long d1), .second, .val (.long d2), .second, rv da, rv a, .val (.int 0), .val (.int 2), .unset, .unset, .unset, .unset] [(.ref a)]) (fun _ k => XS.aload X191.here hx rfl (hb hby at_114) rfl rfl k) ?_
        obtain ⟨cq206, kq206, q206a, q206b, q206c⟩ := isOf hZ rfl F192
        obtain ⟨_, _, ⟨T206, L206, k206, n206⟩, -, X206, ⟨Lc206, hQ206, l206, y206, z206⟩, st206⟩ := X191.virtualBack hx (y := own_y2) (z := own_y2) hown (mvT hZ (own_g hw (i := 30) rfl)) (mvT hZ (own_g hw (i := 31) rfl)) (notFace_of_selects (args := #[]) (mvT hZ (own_g hw (i := 33) rfl))) (mvT hZ (own_g hw (i := 33) rfl)) (mvT hZ (own_g hw (i := 32) rfl)) (by decide) (backOf (W := 0) (own_rmne l Z a0 hw [] (a) ((2 : Int32)) T191.heap n0 Z191 F197 (by decide)) hZ (own_g hw (i := 34) rfl) (own_g hw (i := 3) rfl) (by decide) (by decide)) q206a q206c (g := (mkF m 116 #[iv mk, iv xi, iv yi, .val (.long d0), .second, .val (.long d1), .second, .val (.long d2), .second, rv da, rv a, .val (.int 0), .val (.int 2), .unset, .unset, .unset, .unset] [(.ref a)])) rfl (by rw [hml]; rfl) (Steps.refl _) (argsL := []) (rest := []) (lenOf own_pd___Z rfl) rfl (by show 2 * 0 + _ ≤ _; exact Nat.le_of_eq rfl) (hb hby at_116) (fun _ _ => ⟨rfl, rfl, (by decide : 5 + 0 ≤ _), (by decide : 18 + 0 ≤ _)⟩)
        dsimp only [Pt.U, Pt.locs, Pt.cells, Pt.slots] at X206 l206 y206 z206 st206 hQ206
        subst l206 y206 z206
        obtain ⟨rfl, N206q, e206⟩ := hQ206
        have N206 := Fr.app N191 N206q
        refine own_S (mkF m 119 #[iv mk, iv xi, iv yi, .val (.long d0), .second, .val (.long d1), .second, .val (.long d2), .second, rv da, rv a, .val (.int 0), .val (.int 2), .unset, .unset, .unset, .unset] [(.int 0)]) (fun _ k => st206.trans k) ?_
        have hc207 : (0 : Int32) = (0 : Int32) := by decide
        refine own_S (mkF m 124 #[iv mk, iv xi, iv yi, .val (.long d0), .second, .val (.long d1), .second, .val (.long d2), .second, rv da, rv a, .val (.int 0), .val (.int 2), .unset, .unset, .unset, .unset] []) (fun _ k => XS.ifYes X206.here hx rfl (pc0 := 119) (pc' := 124) rfl (hb hby at_119) rfl ((if0 _ _).trans (teq hc207).1) (by decide) (by decide) k) ?_
        refine own_S (mkF m 126 #[iv mk, iv xi, iv yi, .val (.long d0), .second, .val (.long d1), .second, .val (.long d2), .second, rv da, rv a, .val (.int 0), .val (.int 2), .unset, .unset, .unset, .unset] [(.int 0)]) (fun _ k => XS.iload X206.here hx rfl (hb hby at_124) rfl k) ?_
        refine own_S (mkF m 128 #[iv mk, iv xi, iv yi, .val (.long d0), .second, .val (.long d1), .second, .val (.long d2), .second, rv da, rv a, .val (.int 0), .val (.int 2), .unset, .unset, .unset, .unset] [(.int 2), (.int 0)]) (fun _ k => XS.iload X206.here hx rfl (hb hby at_126) rfl k) ?_
        have hc208 : ¬ ((0 : Int32) = (2 : Int32)) := by decide
        refine own_S (mkF m 159 #[iv mk, iv xi, iv yi, .val (.long d0), .second, .val (.long d1), .second, .val (.long d2), .second, rv da, rv a, .val (.int 0), .val (.int 2), .unset, .unset, .unset, .unset] []) (fun _ k => XS.icmpYes X206.here hx rfl (pc0 := 128) (pc' := 159) rfl (hb hby at_128) rfl (feq hc208).2 (by decide) (by decide) k) ?_
        refine own_S (mkF m 161 #[iv mk, iv xi, iv yi, .val (.long d0), .second, .val (.long d1), .second, .val (.long d2), .second, rv da, rv a, .val (.int 0), .val (.int 2), .unset, .unset, .unset, .unset] [(.ref da)]) (fun _ k => XS.aload X206.here hx rfl (hb hby at_159) rfl rfl k) ?_
        refine own_S (mkF m 163 #[iv mk, iv xi, iv yi, .val (.long d0), .second, .val (.long d1), .second, .val (.long d2), .second, rv da, rv a, .val (.int 0), .val (.int 2), .unset, .unset, .unset, .unset] [(.int 0), (.ref da)]) (fun _ k => XS.iload X206.here hx rfl (hb hby at_161) rfl k) ?_
        refine own_S (mkF m 164 #[iv mk, iv xi, iv yi, .val (.long d0), .second, .val (.long d1), .second, .val (.long d2), .second, rv da, rv a, .val (.int 0), .val (.int 2), .unset, .unset, .unset, .unset] [(.long d0)]) (fun _ k => own_ldJ X206 hx hZ e206 F202 (by decide) rfl (g := (mkF m 163 #[iv mk, iv xi, iv yi, .val (.long d0), .second, .val (.long d1), .second, .val (.long d2), .second, rv da, rv a, .val (.int 0), .val (.int 2), .unset, .unset, .unset, .unset] [(.int 0), (.ref da)])) rfl rfl (hb hby at_163) _ k) ?_
        refine own_S (mkF m 166 #[iv mk, iv xi, iv yi, .val (.long d0), .second, .val (.long d1), .second, .val (.long d2), .second, rv da, rv a, .val (.int 0), .val (.int 2), .unset, .unset, .unset, .unset] [(.ref da), (.long d0)]) (fun _ k => XS.aload X206.here hx rfl (hb hby at_164) rfl rfl k) ?_
        refine own_S (mkF m 168 #[iv mk, iv xi, iv yi, .val (.long d0), .second, .val (.long d1), .second, .val (.long d2), .second, rv da, rv a, .val (.int 0), .val (.int 2), .unset, .unset, .unset, .unset] [(.int 2), (.ref da), (.long d0)]) (fun _ k => XS.iload X206.here hx rfl (hb hby at_166) rfl k) ?_
        refine own_S (mkF m 169 #[iv mk, iv xi, iv yi, .val (.long d0), .second, .val (.long d1), .second, .val (.long d2), .second, rv da, rv a, .val (.int 0), .val (.int 2), .unset, .unset, .unset, .unset] [(.long d2), (.long d0)]) (fun _ k => own_ldJ X206 hx hZ e206 F202 (by decide) rfl (g := (mkF m 168 #[iv mk, iv xi, iv yi, .val (.long d0), .second, .val (.long d1), .second, .val (.long d2), .second, rv da, rv a, .val (.int 0), .val (.int 2), .unset, .unset, .unset, .unset] [(.int 2), (.ref da), (.long d0)])) rfl rfl (hb hby at_168) _ k) ?_
        refine own_S (mkF m 170 #[iv mk, iv xi, iv yi, .val (.long d0), .second, .val (.long d1), .second, .val (.long d2), .second, rv da, rv a, .val (.int 0), .val (.int 2), .unset, .unset, .unset, .unset] [(.int (lcmpW d0 d2))]) (fun _ k => XS.lcmp X206.here hx rfl (hb hby at_169) rfl k) ?_
        have hc209 : ¬ (d0 < d2) := (own_nlt hB)
        refine own_S (mkF m 178 #[iv mk, iv xi, iv yi, .val (.long d0), .second, .val (.long d1), .second, .val (.long d2), .second, rv da, rv a, .val (.int 0), .val (.int 2), .unset, .unset, .unset, .unset] []) (fun _ k => XS.ifYes X206.here hx rfl (pc0 := 170) (pc' := 178) rfl (hb hby at_170) rfl ((if0 _ _).trans (flt (fun q => hc209 ((lw_lt d0 d2).mp q))).2.1) (by decide) (by decide) k) ?_
        refine own_S (mkF m 180 #[iv mk, iv xi, iv yi, .val (.long d0), .second, .val (.long d1), .second, .val (.long d2), .second, rv da, rv a, .val (.int 0), .val (.int 2), .unset, .unset, .unset, .unset] [(.int 2)]) (fun _ k => XS.iload X206.here hx rfl (hb hby at_178) rfl k) ?_
        refine own_S (mkF m 182 #[iv mk, iv xi, iv yi, .val (.long d0), .second, .val (.long d1), .second, .val (.long d2), .second, rv da, rv a, .val (.int 0), .val (.int 2), .val (.int 2), .unset, .unset, .unset] []) (fun _ k => XS.istore X206.here hx rfl (hb hby at_180) rfl (l' := #[iv mk, iv xi, iv yi, .val (.long d0), .second, .val (.long d1), .second, .val (.long d2), .second, rv da, rv a, .val (.int 0), .val (.int 2), .val (.int 2), .unset, .unset, .unset]) rfl k) ?_
        refine own_S (mkF m 184 #[iv mk, iv xi, iv yi, .val (.long d0), .second, .val (.long d1), .second, .val (.long d2), .second, rv da, rv a, .val (.int 0), .val (.int 2), .val (.int 2), .unset, .unset, .unset] [(.int 2)]) (fun _ k => XS.iload X206.here hx rfl (hb hby at_182) rfl k) ?_
        refine own_S (mkF m 186 #[iv mk, iv xi, iv yi, .val (.long d0), .second, .val (.long d1), .second, .val (.long d2), .second, rv da, rv a, .val (.int 0), .val (.int 2), .val (.int 2), .unset, .unset, .unset] [(.int 0), (.int 2)]) (fun _ k => XS.iload X206.here hx rfl (hb hby at_184) rfl k) ?_
        have hc210 : ¬ ((2 : Int32) = (0 : Int32)) := by decide
        refine own_S (mkF m 194 #[iv mk, iv xi, iv yi, .val (.long d0), .second, .val (.long d1), .second, .val (.long d2), .second, rv da, rv a, .val (.int 0), .val (.int 2), .val (.int 2), .unset, .unset, .unset] []) (fun _ k => XS.icmpYes X206.here hx rfl (pc0 := 186) (pc' := 194) rfl (hb hby at_186) rfl (feq hc210).2 (by decide) (by decide) k) ?_
        refine own_S (mkF m 196 #[iv mk, iv xi, iv yi, .val (.long d0), .second, .val (.long d1), .second, .val (.long d2), .second, rv da, rv a, .val (.int 0), .val (.int 2), .val (.int 2), .unset, .unset, .unset] [(.int 0)]) (fun _ k => XS.iload X206.here hx rfl (hb hby at_194) rfl k) ?_
        refine own_S (mkF m 198 #[iv mk, iv xi, iv yi, .val (.long d0), .second, .val (.long d1), .second, .val (.long d2), .second, rv da, rv a, .val (.int 0), .val (.int 2), .val (.int 2), .val (.int 0), .unset, .unset] []) (fun _ k => XS.istore X206.here hx rfl (hb hby at_196) rfl (l' := #[iv mk, iv xi, iv yi, .val (.long d0), .second, .val (.long d1), .second, .val (.long d2), .second, rv da, rv a, .val (.int 0), .val (.int 2), .val (.int 2), .val (.int 0), .unset, .unset]) rfl k) ?_
        refine own_S (mkF m 200 #[iv mk, iv xi, iv yi, .val (.long d0), .second, .val (.long d1), .second, .val (.long d2), .second, rv da, rv a, .val (.int 0), .val (.int 2), .val (.int 2), .val (.int 0), .unset, .unset] [(.ref a)]) (fun _ k => XS.aload X206.here hx rfl (hb hby at_198) rfl rfl k) ?_
        obtain ⟨cq211, kq211, q211a, q211b, q211c⟩ := isOf hZ e206 F192
        obtain ⟨_, _, ⟨T211, L211, k211, n211⟩, -, X211, ⟨Lc211, hQ211, l211, y211, z211⟩, st211⟩ := X206.virtualBack hx (y := own_y9) (z := own_y9) hown (mvT hZ (own_g hw (i := 55) rfl)) (mvT hZ (own_g hw (i := 56) rfl)) (notFace_of_selects (args := #[]) (mvT hZ (own_g hw (i := 58) rfl))) (mvT hZ (own_g hw (i := 58) rfl)) (mvT hZ (own_g hw (i := 57) rfl)) (by decide) (backOf (W := 0) (own_rmpo2 l Z a0 hw [] (a) (da) (ha) (pa) (oa) (kd) (kh) (kp) (ko) ([(.long d0), (.long d1), (.long d2)]) ([(.int (2 : Int32)), (.int (0 : Int32)), g2]) ([(.int (1 : Int32)), (.int (-1 : Int32)), (.int (0 : Int32))]) ([(.long (of + (1 : Int64))), (.long o1), (.long ((of + (1 : Int64)) + (1 : Int64)))]) (((of + (1 : Int64)) + (1 : Int64))) ((2 : Int32)) ((0 : Int32)) T191.heap n0 Z191 F192 F193 F194 F195 F196 F197 F198 F202 F203 F204 F205 G_a G_ha G_pa NE_a_da NE_a_ha NE_a_pa NE_a_oa NE_da_ha NE_da_pa NE_da_oa NE_ha_pa NE_ha_oa NE_pa_oa rfl (by decide) (show (2 : Nat) < 3 from by decide) rfl (by decide) (show (0 : Nat) < 3 from by decide)) hZ (own_g hw (i := 59) rfl) (own_g hw (i := 3) rfl) (by decide) (by decide)) q211a q211c (g := (mkF m 200 #[iv mk, iv xi, iv yi, .val (.long d0), .second, .val (.long d1), .second, .val (.long d2), .second, rv da, rv a, .val (.int 0), .val (.int 2), .val (.int 2), .val (.int 0), .unset, .unset] [(.ref a)])) rfl (by rw [hml]; rfl) (Steps.refl _) (argsL := []) (rest := []) (lenOf own_pd___I rfl) rfl (by show 2 * 0 + _ ≤ _; exact Nat.le_of_eq rfl) (hb hby at_200) (fun _ _ => ⟨rfl, e206, (by decide : 5 + 0 ≤ _), (by decide : 18 + 0 ≤ _)⟩)
        dsimp only [Pt.U, Pt.locs, Pt.cells, Pt.slots] at X211 l211 y211 z211 st211 hQ211
        subst l211 y211 z211
        obtain ⟨rfl, N211q, K211q, F212, F213, F214, F215, F216, F217, F218, F219, F220⟩ := hQ211
        have N211 := Fr.app N206 N211q
        refine own_S (mkF m 203 #[iv mk, iv xi, iv yi, .val (.long d0), .second, .val (.long d1), .second, .val (.long d2), .second, rv da, rv a, .val (.int 0), .val (.int 2), .val (.int 2), .val (.int 0), .unset, .unset] [(.int 2)]) (fun _ k => st211.trans k) ?_
        have F221 := F202.keep K211q (ninS (Ne.symm NE_a_da) (ninS NE_da_ha (ninS NE_da_pa nin0)))
        have F222 := F205.keep K211q (ninS (Ne.symm NE_a_oa) (ninS (Ne.symm NE_ha_oa) (ninS (Ne.symm NE_pa_oa) nin0)))
        have Z211 : n0 ≤ T211.heap.size := Nat.le_trans Z191 K211q.1
        have F223 : own_Ar Z T211.heap ha kh .int [(.int (0 : Int32)), (.int (0 : Int32)), g2] := F219
        have F224 : own_Ar Z T211.heap pa kp .int [(.int (0 : Int32)), (.int (-1 : Int32)), (.int (-1 : Int32))] := F220
        refine own_S (mkF m 205 #[iv mk, iv xi, iv yi, .val (.long d0), .second, .val (.long d1), .second, .val (.long d2), .second, rv da, rv a, .val (.int 0), .val (.int 2), .val (.int 2), .val (.int 0), .val (.int 2), .unset] []) (fun _ k => XS.istore X211.here hx rfl (hb hby at_203) rfl (l' := #[iv mk, iv xi, iv yi, .val (.long d0), .second, .val (.long d1), .second, .val (.long d2), .second, rv da, rv a, .val (.int 0), .val (.int 2), .val (.int 2), .val (.int 0), .val (.int 2), .unset]) rfl k) ?_
        refine own_S (mkF m 207 #[iv mk, iv xi, iv yi, .val (.long d0), .second, .val (.long d1), .second, .val (.long d2), .second, rv da, rv a, .val (.int 0), .val (.int 2), .val (.int 2), .val (.int 0), .val (.int 2), .unset] [(.int 2)]) (fun _ k => XS.iload X211.here hx rfl (hb hby at_205) rfl k) ?_
        refine own_S (mkF m 209 #[iv mk, iv xi, iv yi, .val (.long d0), .second, .val (.long d1), .second, .val (.long d2), .second, rv da, rv a, .val (.int 0), .val (.int 2), .val (.int 2), .val (.int 0), .val (.int 2), .unset] [(.int 2), (.int 2)]) (fun _ k => XS.iload X211.here hx rfl (hb hby at_207) rfl k) ?_
        have hc225 : (2 : Int32) = (2 : Int32) := by decide
        refine own_S (mkF m 214 #[iv mk, iv xi, iv yi, .val (.long d0), .second, .val (.long d1), .second, .val (.long d2), .second, rv da, rv a, .val (.int 0), .val (.int 2), .val (.int 2), .val (.int 0), .val (.int 2), .unset] []) (fun _ k => XS.icmpYes X211.here hx rfl (pc0 := 209) (pc' := 214) rfl (hb hby at_209) rfl (teq hc225).1 (by decide) (by decide) k) ?_
        refine own_S (mkF m 216 #[iv mk, iv xi, iv yi, .val (.long d0), .second, .val (.long d1), .second, .val (.long d2), .second, rv da, rv a, .val (.int 0), .val (.int 2), .val (.int 2), .val (.int 0), .val (.int 2), .unset] [(.ref a)]) (fun _ k => XS.aload X211.here hx rfl (hb hby at_214) rfl rfl k) ?_
        obtain ⟨cq226, kq226, q226a, q226b, q226c⟩ := isOf hZ rfl F212
        obtain ⟨_, _, ⟨T226, L226, k226, n226⟩, -, X226, ⟨Lc226, hQ226, l226, y226, z226⟩, st226⟩ := X211.virtualBack hx (y := own_y2) (z := own_y2) hown (mvT hZ (own_g hw (i := 30) rfl)) (mvT hZ (own_g hw (i := 31) rfl)) (notFace_of_selects (args := #[]) (mvT hZ (own_g hw (i := 33) rfl))) (mvT hZ (own_g hw (i := 33) rfl)) (mvT hZ (own_g hw (i := 32) rfl)) (by decide) (backOf (W := 0) (own_rmne l Z a0 hw [] (a) ((1 : Int32)) T211.heap n0 Z211 F217 (by decide)) hZ (own_g hw (i := 34) rfl) (own_g hw (i := 3) rfl) (by decide) (by decide)) q226a q226c (g := (mkF m 216 #[iv mk, iv xi, iv yi, .val (.long d0), .second, .val (.long d1), .second, .val (.long d2), .second, rv da, rv a, .val (.int 0), .val (.int 2), .val (.int 2), .val (.int 0), .val (.int 2), .unset] [(.ref a)])) rfl (by rw [hml]; rfl) (Steps.refl _) (argsL := []) (rest := []) (lenOf own_pd___Z rfl) rfl (by show 2 * 0 + _ ≤ _; exact Nat.le_of_eq rfl) (hb hby at_216) (fun _ _ => ⟨rfl, rfl, (by decide : 5 + 0 ≤ _), (by decide : 18 + 0 ≤ _)⟩)
        dsimp only [Pt.U, Pt.locs, Pt.cells, Pt.slots] at X226 l226 y226 z226 st226 hQ226
        subst l226 y226 z226
        obtain ⟨rfl, N226q, e226⟩ := hQ226
        have N226 := Fr.app N211 N226q
        refine own_S (mkF m 219 #[iv mk, iv xi, iv yi, .val (.long d0), .second, .val (.long d1), .second, .val (.long d2), .second, rv da, rv a, .val (.int 0), .val (.int 2), .val (.int 2), .val (.int 0), .val (.int 2), .unset] [(.int 0)]) (fun _ k => st226.trans k) ?_
        have hc227 : (0 : Int32) = (0 : Int32) := by decide
        refine own_S (mkF m 224 #[iv mk, iv xi, iv yi, .val (.long d0), .second, .val (.long d1), .second, .val (.long d2), .second, rv da, rv a, .val (.int 0), .val (.int 2), .val (.int 2), .val (.int 0), .val (.int 2), .unset] []) (fun _ k => XS.ifYes X226.here hx rfl (pc0 := 219) (pc' := 224) rfl (hb hby at_219) rfl ((if0 _ _).trans (teq hc227).1) (by decide) (by decide) k) ?_
        refine own_S (mkF m 226 #[iv mk, iv xi, iv yi, .val (.long d0), .second, .val (.long d1), .second, .val (.long d2), .second, rv da, rv a, .val (.int 0), .val (.int 2), .val (.int 2), .val (.int 0), .val (.int 2), .unset] [(.ref a)]) (fun _ k => XS.aload X226.here hx rfl (hb hby at_224) rfl rfl k) ?_
        obtain ⟨cq228, kq228, q228a, q228b, q228c⟩ := isOf hZ e226 F212
        obtain ⟨_, _, ⟨T228, L228, k228, n228⟩, -, X228, ⟨Lc228, hQ228, l228, y228, z228⟩, st228⟩ := X226.virtualBack hx (y := own_y9) (z := own_y9) hown (mvT hZ (own_g hw (i := 55) rfl)) (mvT hZ (own_g hw (i := 56) rfl)) (notFace_of_selects (args := #[]) (mvT hZ (own_g hw (i := 58) rfl))) (mvT hZ (own_g hw (i := 58) rfl)) (mvT hZ (own_g hw (i := 57) rfl)) (by decide) (backOf (W := 0) (own_rmpo1 l Z a0 hw [] (a) (da) (ha) (pa) (oa) (kd) (kh) (kp) (ko) ([(.long d0), (.long d1), (.long d2)]) ([(.int (0 : Int32)), (.int (0 : Int32)), g2]) ([(.int (0 : Int32)), (.int (-1 : Int32)), (.int (-1 : Int32))]) ([(.long (of + (1 : Int64))), (.long o1), (.long ((of + (1 : Int64)) + (1 : Int64)))]) (((of + (1 : Int64)) + (1 : Int64))) ((0 : Int32)) T211.heap n0 Z211 F212 F213 F214 F215 F216 F217 F218 F221 F223 F224 F222 G_a G_ha G_pa NE_a_da NE_a_ha NE_a_pa NE_a_oa NE_da_ha NE_da_pa NE_da_oa NE_ha_pa NE_ha_oa NE_pa_oa rfl (by decide) (show (0 : Nat) < 3 from by decide)) hZ (own_g hw (i := 59) rfl) (own_g hw (i := 3) rfl) (by decide) (by decide)) q228a q228c (g := (mkF m 226 #[iv mk, iv xi, iv yi, .val (.long d0), .second, .val (.long d1), .second, .val (.long d2), .second, rv da, rv a, .val (.int 0), .val (.int 2), .val (.int 2), .val (.int 0), .val (.int 2), .unset] [(.ref a)])) rfl (by rw [hml]; rfl) (Steps.refl _) (argsL := []) (rest := []) (lenOf own_pd___I rfl) rfl (by show 2 * 0 + _ ≤ _; exact Nat.le_of_eq rfl) (hb hby at_226) (fun _ _ => ⟨rfl, e226, (by decide : 5 + 0 ≤ _), (by decide : 18 + 0 ≤ _)⟩)
        dsimp only [Pt.U, Pt.locs, Pt.cells, Pt.slots] at X228 l228 y228 z228 st228 hQ228
        subst l228 y228 z228
        obtain ⟨rfl, N228q, K228q, F229, F230, F231, F232, F233, F234, F235, F236, F237⟩ := hQ228
        have N228 := Fr.app N226 N228q
        refine own_S (mkF m 229 #[iv mk, iv xi, iv yi, .val (.long d0), .second, .val (.long d1), .second, .val (.long d2), .second, rv da, rv a, .val (.int 0), .val (.int 2), .val (.int 2), .val (.int 0), .val (.int 2), .unset] [(.int 0)]) (fun _ k => st228.trans k) ?_
        have F238 := F221.keep K228q (ninS (Ne.symm NE_a_da) (ninS NE_da_ha (ninS NE_da_pa nin0)))
        have F239 := F222.keep K228q (ninS (Ne.symm NE_a_oa) (ninS (Ne.symm NE_ha_oa) (ninS (Ne.symm NE_pa_oa) nin0)))
        have Z228 : n0 ≤ T228.heap.size := Nat.le_trans Z211 K228q.1
        refine own_S (mkF m 231 #[iv mk, iv xi, iv yi, .val (.long d0), .second, .val (.long d1), .second, .val (.long d2), .second, rv da, rv a, .val (.int 0), .val (.int 2), .val (.int 2), .val (.int 0), .val (.int 2), .val (.int 0)] []) (fun _ k => XS.istore X228.here hx rfl (hb hby at_229) rfl (l' := #[iv mk, iv xi, iv yi, .val (.long d0), .second, .val (.long d1), .second, .val (.long d2), .second, rv da, rv a, .val (.int 0), .val (.int 2), .val (.int 2), .val (.int 0), .val (.int 2), .val (.int 0)]) rfl k) ?_
        refine own_S (mkF m 233 #[iv mk, iv xi, iv yi, .val (.long d0), .second, .val (.long d1), .second, .val (.long d2), .second, rv da, rv a, .val (.int 0), .val (.int 2), .val (.int 2), .val (.int 0), .val (.int 2), .val (.int 0)] [(.int 0)]) (fun _ k => XS.iload X228.here hx rfl (hb hby at_231) rfl k) ?_
        refine own_S (mkF m 235 #[iv mk, iv xi, iv yi, .val (.long d0), .second, .val (.long d1), .second, .val (.long d2), .second, rv da, rv a, .val (.int 0), .val (.int 2), .val (.int 2), .val (.int 0), .val (.int 2), .val (.int 0)] [(.int 0), (.int 0)]) (fun _ k => XS.iload X228.here hx rfl (hb hby at_233) rfl k) ?_
        have hc240 : (0 : Int32) = (0 : Int32) := by decide
        refine own_S (mkF m 238 #[iv mk, iv xi, iv yi, .val (.long d0), .second, .val (.long d1), .second, .val (.long d2), .second, rv da, rv a, .val (.int 0), .val (.int 2), .val (.int 2), .val (.int 0), .val (.int 2), .val (.int 0)] []) (fun _ k => XS.icmpNo X228.here hx rfl (hb hby at_235) rfl (teq hc240).2 k) ?_
        refine own_S (mkF m 240 #[iv mk, iv xi, iv yi, .val (.long d0), .second, .val (.long d1), .second, .val (.long d2), .second, rv da, rv a, .val (.int 0), .val (.int 2), .val (.int 2), .val (.int 0), .val (.int 2), .val (.int 0)] [(.ref a)]) (fun _ k => XS.aload X228.here hx rfl (hb hby at_238) rfl rfl k) ?_
        obtain ⟨cq241, kq241, q241a, q241b, q241c⟩ := isOf hZ rfl F229
        obtain ⟨_, _, ⟨T241, L241, k241, n241⟩, -, X241, ⟨Lc241, hQ241, l241, y241, z241⟩, st241⟩ := X228.virtualBack hx (y := own_y2) (z := own_y2) hown (mvT hZ (own_g hw (i := 30) rfl)) (mvT hZ (own_g hw (i := 31) rfl)) (notFace_of_selects (args := #[]) (mvT hZ (own_g hw (i := 33) rfl))) (mvT hZ (own_g hw (i := 33) rfl)) (mvT hZ (own_g hw (i := 32) rfl)) (by decide) (backOf (W := 0) (own_rmem l Z a0 hw [] (a) T228.heap n0 Z228 F234) hZ (own_g hw (i := 34) rfl) (own_g hw (i := 3) rfl) (by decide) (by decide)) q241a q241c (g := (mkF m 240 #[iv mk, iv xi, iv yi, .val (.long d0), .second, .val (.long d1), .second, .val (.long d2), .second, rv da, rv a, .val (.int 0), .val (.int 2), .val (.int 2), .val (.int 0), .val (.int 2), .val (.int 0)] [(.ref a)])) rfl (by rw [hml]; rfl) (Steps.refl _) (argsL := []) (rest := []) (lenOf own_pd___Z rfl) rfl (by show 2 * 0 + _ ≤ _; exact Nat.le_of_eq rfl) (hb hby at_240) (fun _ _ => ⟨rfl, rfl, (by decide : 5 + 0 ≤ _), (by decide : 18 + 0 ≤ _)⟩)
        dsimp only [Pt.U, Pt.locs, Pt.cells, Pt.slots] at X241 l241 y241 z241 st241 hQ241
        subst l241 y241 z241
        obtain ⟨rfl, N241q, e241⟩ := hQ241
        have N241 := Fr.app N228 N241q
        refine own_S (mkF m 243 #[iv mk, iv xi, iv yi, .val (.long d0), .second, .val (.long d1), .second, .val (.long d2), .second, rv da, rv a, .val (.int 0), .val (.int 2), .val (.int 2), .val (.int 0), .val (.int 2), .val (.int 0)] [(.int 1)]) (fun _ k => st241.trans k) ?_
        have hc242 : ¬ ((1 : Int32) = (0 : Int32)) := by decide
        refine own_S (mkF m 246 #[iv mk, iv xi, iv yi, .val (.long d0), .second, .val (.long d1), .second, .val (.long d2), .second, rv da, rv a, .val (.int 0), .val (.int 2), .val (.int 2), .val (.int 0), .val (.int 2), .val (.int 0)] []) (fun _ k => XS.ifNo X241.here hx rfl (hb hby at_243) rfl ((if0 _ _).trans (feq hc242).1) k) ?_
        refine own_S (mkF m 247 #[iv mk, iv xi, iv yi, .val (.long d0), .second, .val (.long d1), .second, .val (.long d2), .second, rv da, rv a, .val (.int 0), .val (.int 2), .val (.int 2), .val (.int 0), .val (.int 2), .val (.int 0)] [(.int 1)]) (fun _ k => XS.iconst X241.here hx rfl (hb hby at_246) k) ?_
        refine own_S (mkF m 251 #[iv mk, iv xi, iv yi, .val (.long d0), .second, .val (.long d1), .second, .val (.long d2), .second, rv da, rv a, .val (.int 0), .val (.int 2), .val (.int 2), .val (.int 0), .val (.int 2), .val (.int 0)] [(.int 1)]) (fun _ k => XS.goto X241.here hx rfl (pc0 := 247) (pc' := 251) rfl (hb hby at_247) (by decide) (by decide) k) ?_
        exact own_retN X241 hx hlk (t := .boolean) hret (by simp) (hb hby at_251) (by rw [e241]; exact ⟨rfl, N241, trivial⟩) (by decide) (by decide)
      ·
        obtain ⟨cq243, kq243, q243a, q243b, q243c⟩ := isOf hZ rfl F177
        obtain ⟨_, _, ⟨T243, L243, k243, n243⟩, -, X243, ⟨Lc243, hQ243, l243, y243, z243⟩, st243⟩ := X176.virtualBack hx (y := own_y6) (z := own_y6) hown (mvT hZ (own_g hw (i := 36) rfl)) (mvT hZ (own_g hw (i := 37) rfl)) (notFace_of_selects (args := #[]) (mvT hZ (own_g hw (i := 39) rfl))) (mvT hZ (own_g hw (i := 39) rfl)) (mvT hZ (own_g hw (i := 38) rfl)) (by decide) (backOf (W := 0) (own_rmof1n l Z a0 hw [] (a) (da) (ha) (pa) (oa) (kd) (kh) (kp) (ko) ([(.long d0), (.long d1), (.long d2)]) ([(.int (0 : Int32)), g1, g2]) ([(.int (0 : Int32)), (.int (-1 : Int32)), (.int (-1 : Int32))]) ([(.long (of + (1 : Int64))), (.long o1), (.long o2)]) ((2 : Int32)) ((0 : Int32)) ((of + (1 : Int64))) (d2) (d0) ((of + (1 : Int64))) T176.heap n0 Z176 F177 F178 F179 F180 F181 F182 F183 F187 F188 F189 F190 G_a G_ha G_pa G_oa NE_a_da NE_a_ha NE_a_pa NE_a_oa NE_da_ha NE_da_pa NE_da_oa NE_ha_pa NE_ha_oa NE_pa_oa (by decide) (show (2 : Nat) < 3 from by decide) (show (2 : Nat) < 3 from by decide) rfl (show (1 : Nat) < 3 from by decide) rfl (by decide) (show (0 : Nat) < 3 from by decide) (by decide) rfl rfl rfl hB) hZ (own_g hw (i := 40) rfl) (own_g hw (i := 3) rfl) (by decide) (by decide)) q243a q243c (g := (mkF m 111 #[iv mk, iv xi, iv yi, .val (.long d0), .second, .val (.long d1), .second, .val (.long d2), .second, rv da, rv a, .val (.int 0), .val (.int 2), .unset, .unset, .unset, .unset] [(.int 2), (.ref a)])) rfl (by rw [hml]; rfl) (Steps.refl _) (argsL := [(.int 2)]) (rest := []) (lenOf own_pd__I_V rfl) rfl (by show 2 * 0 + _ ≤ _; exact Nat.le_of_eq rfl) (hb hby at_111) (fun _ _ => ⟨rfl, rfl, (by decide : 5 + 0 ≤ _), (by decide : 18 + 0 ≤ _)⟩)
        dsimp only [Pt.U, Pt.locs, Pt.cells, Pt.slots] at X243 l243 y243 z243 st243 hQ243
        subst l243 y243 z243
        obtain ⟨rfl, N243q, K243q, F244, F245, F246, F247, F248, F249, F250, F251, F252, F253⟩ := hQ243
        have N243 := Fr.app N176 N243q
        refine own_S (mkF m 114 #[iv mk, iv xi, iv yi, .val (.long d0), .second, .val (.long d1), .second, .val (.long d2), .second, rv da, rv a, .val (.int 0), .val (.int 2), .unset, .unset, .unset, .unset] []) (fun _ k => st243.trans k) ?_
        have F254 := F187.keep K243q (ninS (Ne.symm NE_a_da) (ninS NE_da_ha (ninS NE_da_pa (ninS NE_da_oa nin0))))
        have Z243 : n0 ≤ T243.heap.size := Nat.le_trans Z176 K243q.1
        have F255 : own_Ar Z T243.heap ha kh .int [(.int (0 : Int32)), (.int (2 : Int32)), g2] := F251
        have F256 : own_Ar Z T243.heap pa kp .int [(.int (0 : Int32)), (.int (-1 : Int32)), (.int (1 : Int32))] := F252
        have F257 : own_Ar Z T243.heap oa ko .long [(.long (of + (1 : Int64))), (.long o1), (.long ((of + (1 : Int64)) + (1 : Int64)))] := F253
        refine own_S (mkF m 116 #[iv mk, iv xi, iv yi, .val (.long d0), .second, .val (.long d1), .second, .val (.long d2), .second, rv da, rv a, .val (.int 0), .val (.int 2), .unset, .unset, .unset, .unset] [(.ref a)]) (fun _ k => XS.aload X243.here hx rfl (hb hby at_114) rfl rfl k) ?_
        obtain ⟨cq258, kq258, q258a, q258b, q258c⟩ := isOf hZ rfl F244
        obtain ⟨_, _, ⟨T258, L258, k258, n258⟩, -, X258, ⟨Lc258, hQ258, l258, y258, z258⟩, st258⟩ := X243.virtualBack hx (y := own_y2) (z := own_y2) hown (mvT hZ (own_g hw (i := 30) rfl)) (mvT hZ (own_g hw (i := 31) rfl)) (notFace_of_selects (args := #[]) (mvT hZ (own_g hw (i := 33) rfl))) (mvT hZ (own_g hw (i := 33) rfl)) (mvT hZ (own_g hw (i := 32) rfl)) (by decide) (backOf (W := 0) (own_rmne l Z a0 hw [] (a) ((2 : Int32)) T243.heap n0 Z243 F249 (by decide)) hZ (own_g hw (i := 34) rfl) (own_g hw (i := 3) rfl) (by decide) (by decide)) q258a q258c (g := (mkF m 116 #[iv mk, iv xi, iv yi, .val (.long d0), .second, .val (.long d1), .second, .val (.long d2), .second, rv da, rv a, .val (.int 0), .val (.int 2), .unset, .unset, .unset, .unset] [(.ref a)])) rfl (by rw [hml]; rfl) (Steps.refl _) (argsL := []) (rest := []) (lenOf own_pd___Z rfl) rfl (by show 2 * 0 + _ ≤ _; exact Nat.le_of_eq rfl) (hb hby at_116) (fun _ _ => ⟨rfl, rfl, (by decide : 5 + 0 ≤ _), (by decide : 18 + 0 ≤ _)⟩)
        dsimp only [Pt.U, Pt.locs, Pt.cells, Pt.slots] at X258 l258 y258 z258 st258 hQ258
        subst l258 y258 z258
        obtain ⟨rfl, N258q, e258⟩ := hQ258
        have N258 := Fr.app N243 N258q
        refine own_S (mkF m 119 #[iv mk, iv xi, iv yi, .val (.long d0), .second, .val (.long d1), .second, .val (.long d2), .second, rv da, rv a, .val (.int 0), .val (.int 2), .unset, .unset, .unset, .unset] [(.int 0)]) (fun _ k => st258.trans k) ?_
        have hc259 : (0 : Int32) = (0 : Int32) := by decide
        refine own_S (mkF m 124 #[iv mk, iv xi, iv yi, .val (.long d0), .second, .val (.long d1), .second, .val (.long d2), .second, rv da, rv a, .val (.int 0), .val (.int 2), .unset, .unset, .unset, .unset] []) (fun _ k => XS.ifYes X258.here hx rfl (pc0 := 119) (pc' := 124) rfl (hb hby at_119) rfl ((if0 _ _).trans (teq hc259).1) (by decide) (by decide) k) ?_
        refine own_S (mkF m 126 #[iv mk, iv xi, iv yi, .val (.long d0), .second, .val (.long d1), .second, .val (.long d2), .second, rv da, rv a, .val (.int 0), .val (.int 2), .unset, .unset, .unset, .unset] [(.int 0)]) (fun _ k => XS.iload X258.here hx rfl (hb hby at_124) rfl k) ?_
        refine own_S (mkF m 128 #[iv mk, iv xi, iv yi, .val (.long d0), .second, .val (.long d1), .second, .val (.long d2), .second, rv da, rv a, .val (.int 0), .val (.int 2), .unset, .unset, .unset, .unset] [(.int 2), (.int 0)]) (fun _ k => XS.iload X258.here hx rfl (hb hby at_126) rfl k) ?_
        have hc260 : ¬ ((0 : Int32) = (2 : Int32)) := by decide
        refine own_S (mkF m 159 #[iv mk, iv xi, iv yi, .val (.long d0), .second, .val (.long d1), .second, .val (.long d2), .second, rv da, rv a, .val (.int 0), .val (.int 2), .unset, .unset, .unset, .unset] []) (fun _ k => XS.icmpYes X258.here hx rfl (pc0 := 128) (pc' := 159) rfl (hb hby at_128) rfl (feq hc260).2 (by decide) (by decide) k) ?_
        refine own_S (mkF m 161 #[iv mk, iv xi, iv yi, .val (.long d0), .second, .val (.long d1), .second, .val (.long d2), .second, rv da, rv a, .val (.int 0), .val (.int 2), .unset, .unset, .unset, .unset] [(.ref da)]) (fun _ k => XS.aload X258.here hx rfl (hb hby at_159) rfl rfl k) ?_
        refine own_S (mkF m 163 #[iv mk, iv xi, iv yi, .val (.long d0), .second, .val (.long d1), .second, .val (.long d2), .second, rv da, rv a, .val (.int 0), .val (.int 2), .unset, .unset, .unset, .unset] [(.int 0), (.ref da)]) (fun _ k => XS.iload X258.here hx rfl (hb hby at_161) rfl k) ?_
        refine own_S (mkF m 164 #[iv mk, iv xi, iv yi, .val (.long d0), .second, .val (.long d1), .second, .val (.long d2), .second, rv da, rv a, .val (.int 0), .val (.int 2), .unset, .unset, .unset, .unset] [(.long d0)]) (fun _ k => own_ldJ X258 hx hZ e258 F254 (by decide) rfl (g := (mkF m 163 #[iv mk, iv xi, iv yi, .val (.long d0), .second, .val (.long d1), .second, .val (.long d2), .second, rv da, rv a, .val (.int 0), .val (.int 2), .unset, .unset, .unset, .unset] [(.int 0), (.ref da)])) rfl rfl (hb hby at_163) _ k) ?_
        refine own_S (mkF m 166 #[iv mk, iv xi, iv yi, .val (.long d0), .second, .val (.long d1), .second, .val (.long d2), .second, rv da, rv a, .val (.int 0), .val (.int 2), .unset, .unset, .unset, .unset] [(.ref da), (.long d0)]) (fun _ k => XS.aload X258.here hx rfl (hb hby at_164) rfl rfl k) ?_
        refine own_S (mkF m 168 #[iv mk, iv xi, iv yi, .val (.long d0), .second, .val (.long d1), .second, .val (.long d2), .second, rv da, rv a, .val (.int 0), .val (.int 2), .unset, .unset, .unset, .unset] [(.int 2), (.ref da), (.long d0)]) (fun _ k => XS.iload X258.here hx rfl (hb hby at_166) rfl k) ?_
        refine own_S (mkF m 169 #[iv mk, iv xi, iv yi, .val (.long d0), .second, .val (.long d1), .second, .val (.long d2), .second, rv da, rv a, .val (.int 0), .val (.int 2), .unset, .unset, .unset, .unset] [(.long d2), (.long d0)]) (fun _ k => own_ldJ X258 hx hZ e258 F254 (by decide) rfl (g := (mkF m 168 #[iv mk, iv xi, iv yi, .val (.long d0), .second, .val (.long d1), .second, .val (.long d2), .second, rv da, rv a, .val (.int 0), .val (.int 2), .unset, .unset, .unset, .unset] [(.int 2), (.ref da), (.long d0)])) rfl rfl (hb hby at_168) _ k) ?_
        refine own_S (mkF m 170 #[iv mk, iv xi, iv yi, .val (.long d0), .second, .val (.long d1), .second, .val (.long d2), .second, rv da, rv a, .val (.int 0), .val (.int 2), .unset, .unset, .unset, .unset] [(.int (lcmpW d0 d2))]) (fun _ k => XS.lcmp X258.here hx rfl (hb hby at_169) rfl k) ?_
        have hc261 : d0 < d2 := (own_lt hof hB)
        refine own_S (mkF m 173 #[iv mk, iv xi, iv yi, .val (.long d0), .second, .val (.long d1), .second, .val (.long d2), .second, rv da, rv a, .val (.int 0), .val (.int 2), .unset, .unset, .unset, .unset] []) (fun _ k => XS.ifNo X258.here hx rfl (hb hby at_170) rfl ((if0 _ _).trans (tlt ((lw_lt d0 d2).mpr hc261)).2.1) k) ?_
        refine own_S (mkF m 175 #[iv mk, iv xi, iv yi, .val (.long d0), .second, .val (.long d1), .second, .val (.long d2), .second, rv da, rv a, .val (.int 0), .val (.int 2), .unset, .unset, .unset, .unset] [(.int 0)]) (fun _ k => XS.iload X258.here hx rfl (hb hby at_173) rfl k) ?_
        refine own_S (mkF m 180 #[iv mk, iv xi, iv yi, .val (.long d0), .second, .val (.long d1), .second, .val (.long d2), .second, rv da, rv a, .val (.int 0), .val (.int 2), .unset, .unset, .unset, .unset] [(.int 0)]) (fun _ k => XS.goto X258.here hx rfl (pc0 := 175) (pc' := 180) rfl (hb hby at_175) (by decide) (by decide) k) ?_
        refine own_S (mkF m 182 #[iv mk, iv xi, iv yi, .val (.long d0), .second, .val (.long d1), .second, .val (.long d2), .second, rv da, rv a, .val (.int 0), .val (.int 2), .val (.int 0), .unset, .unset, .unset] []) (fun _ k => XS.istore X258.here hx rfl (hb hby at_180) rfl (l' := #[iv mk, iv xi, iv yi, .val (.long d0), .second, .val (.long d1), .second, .val (.long d2), .second, rv da, rv a, .val (.int 0), .val (.int 2), .val (.int 0), .unset, .unset, .unset]) rfl k) ?_
        refine own_S (mkF m 184 #[iv mk, iv xi, iv yi, .val (.long d0), .second, .val (.long d1), .second, .val (.long d2), .second, rv da, rv a, .val (.int 0), .val (.int 2), .val (.int 0), .unset, .unset, .unset] [(.int 0)]) (fun _ k => XS.iload X258.here hx rfl (hb hby at_182) rfl k) ?_
        refine own_S (mkF m 186 #[iv mk, iv xi, iv yi, .val (.long d0), .second, .val (.long d1), .second, .val (.long d2), .second, rv da, rv a, .val (.int 0), .val (.int 2), .val (.int 0), .unset, .unset, .unset] [(.int 0), (.int 0)]) (fun _ k => XS.iload X258.here hx rfl (hb hby at_184) rfl k) ?_
        have hc262 : (0 : Int32) = (0 : Int32) := by decide
        refine own_S (mkF m 189 #[iv mk, iv xi, iv yi, .val (.long d0), .second, .val (.long d1), .second, .val (.long d2), .second, rv da, rv a, .val (.int 0), .val (.int 2), .val (.int 0), .unset, .unset, .unset] []) (fun _ k => XS.icmpNo X258.here hx rfl (hb hby at_186) rfl (teq hc262).2 k) ?_
        refine own_S (mkF m 191 #[iv mk, iv xi, iv yi, .val (.long d0), .second, .val (.long d1), .second, .val (.long d2), .second, rv da, rv a, .val (.int 0), .val (.int 2), .val (.int 0), .unset, .unset, .unset] [(.int 2)]) (fun _ k => XS.iload X258.here hx rfl (hb hby at_189) rfl k) ?_
        refine own_S (mkF m 196 #[iv mk, iv xi, iv yi, .val (.long d0), .second, .val (.long d1), .second, .val (.long d2), .second, rv da, rv a, .val (.int 0), .val (.int 2), .val (.int 0), .unset, .unset, .unset] [(.int 2)]) (fun _ k => XS.goto X258.here hx rfl (pc0 := 191) (pc' := 196) rfl (hb hby at_191) (by decide) (by decide) k) ?_
        refine own_S (mkF m 198 #[iv mk, iv xi, iv yi, .val (.long d0), .second, .val (.long d1), .second, .val (.long d2), .second, rv da, rv a, .val (.int 0), .val (.int 2), .val (.int 0), .val (.int 2), .unset, .unset] []) (fun _ k => XS.istore X258.here hx rfl (hb hby at_196) rfl (l' := #[iv mk, iv xi, iv yi, .val (.long d0), .second, .val (.long d1), .second, .val (.long d2), .second, rv da, rv a, .val (.int 0), .val (.int 2), .val (.int 0), .val (.int 2), .unset, .unset]) rfl k) ?_
        refine own_S (mkF m 200 #[iv mk, iv xi, iv yi, .val (.long d0), .second, .val (.long d1), .second, .val (.long d2), .second, rv da, rv a, .val (.int 0), .val (.int 2), .val (.int 0), .val (.int 2), .unset, .unset] [(.ref a)]) (fun _ k => XS.aload X258.here hx rfl (hb hby at_198) rfl rfl k) ?_
        obtain ⟨cq263, kq263, q263a, q263b, q263c⟩ := isOf hZ e258 F244
        obtain ⟨_, _, ⟨T263, L263, k263, n263⟩, -, X263, ⟨Lc263, hQ263, l263, y263, z263⟩, st263⟩ := X258.virtualBack hx (y := own_y9) (z := own_y9) hown (mvT hZ (own_g hw (i := 55) rfl)) (mvT hZ (own_g hw (i := 56) rfl)) (notFace_of_selects (args := #[]) (mvT hZ (own_g hw (i := 58) rfl))) (mvT hZ (own_g hw (i := 58) rfl)) (mvT hZ (own_g hw (i := 57) rfl)) (by decide) (backOf (W := 0) (own_rmpo2 l Z a0 hw [] (a) (da) (ha) (pa) (oa) (kd) (kh) (kp) (ko) ([(.long d0), (.long d1), (.long d2)]) ([(.int (0 : Int32)), (.int (2 : Int32)), g2]) ([(.int (0 : Int32)), (.int (-1 : Int32)), (.int (1 : Int32))]) ([(.long (of + (1 : Int64))), (.long o1), (.long ((of + (1 : Int64)) + (1 : Int64)))]) (((of + (1 : Int64)) + (1 : Int64))) ((0 : Int32)) ((2 : Int32)) T243.heap n0 Z243 F244 F245 F246 F247 F248 F249 F250 F254 F255 F256 F257 G_a G_ha G_pa NE_a_da NE_a_ha NE_a_pa NE_a_oa NE_da_ha NE_da_pa NE_da_oa NE_ha_pa NE_ha_oa NE_pa_oa rfl (by decide) (show (0 : Nat) < 3 from by decide) rfl (by decide) (show (2 : Nat) < 3 from by decide)) hZ (own_g hw (i := 59) rfl) (own_g hw (i := 3) rfl) (by decide) (by decide)) q263a q263c (g := (mkF m 200 #[iv mk, iv xi, iv yi, .val (.long d0), .second, .val (.long d1), .second, .val (.long d2), .second, rv da, rv a, .val (.int 0), .val (.int 2), .val (.int 0), .val (.int 2), .unset, .unset] [(.ref a)])) rfl (by rw [hml]; rfl) (Steps.refl _) (argsL := []) (rest := []) (lenOf own_pd___I rfl) rfl (by show 2 * 0 + _ ≤ _; exact Nat.le_of_eq rfl) (hb hby at_200) (fun _ _ => ⟨rfl, e258, (by decide : 5 + 0 ≤ _), (by decide : 18 + 0 ≤ _)⟩)
        dsimp only [Pt.U, Pt.locs, Pt.cells, Pt.slots] at X263 l263 y263 z263 st263 hQ263
        subst l263 y263 z263
        obtain ⟨rfl, N263q, K263q, F264, F265, F266, F267, F268, F269, F270, F271, F272⟩ := hQ263
        have N263 := Fr.app N258 N263q
        refine own_S (mkF m 203 #[iv mk, iv xi, iv yi, .val (.long d0), .second, .val (.long d1), .second, .val (.long d2), .second, rv da, rv a, .val (.int 0), .val (.int 2), .val (.int 0), .val (.int 2), .unset, .unset] [(.int 0)]) (fun _ k => st263.trans k) ?_
        have F273 := F254.keep K263q (ninS (Ne.symm NE_a_da) (ninS NE_da_ha (ninS NE_da_pa nin0)))
        have F274 := F257.keep K263q (ninS (Ne.symm NE_a_oa) (ninS (Ne.symm NE_ha_oa) (ninS (Ne.symm NE_pa_oa) nin0)))
        have Z263 : n0 ≤ T263.heap.size := Nat.le_trans Z243 K263q.1
        have F275 : own_Ar Z T263.heap ha kh .int [(.int (2 : Int32)), (.int (2 : Int32)), g2] := F271
        have F276 : own_Ar Z T263.heap pa kp .int [(.int (-1 : Int32)), (.int (-1 : Int32)), (.int (0 : Int32))] := F272
        refine own_S (mkF m 205 #[iv mk, iv xi, iv yi, .val (.long d0), .second, .val (.long d1), .second, .val (.long d2), .second, rv da, rv a, .val (.int 0), .val (.int 2), .val (.int 0), .val (.int 2), .val (.int 0), .unset] []) (fun _ k => XS.istore X263.here hx rfl (hb hby at_203) rfl (l' := #[iv mk, iv xi, iv yi, .val (.long d0), .second, .val (.long d1), .second, .val (.long d2), .second, rv da, rv a, .val (.int 0), .val (.int 2), .val (.int 0), .val (.int 2), .val (.int 0), .unset]) rfl k) ?_
        refine own_S (mkF m 207 #[iv mk, iv xi, iv yi, .val (.long d0), .second, .val (.long d1), .second, .val (.long d2), .second, rv da, rv a, .val (.int 0), .val (.int 2), .val (.int 0), .val (.int 2), .val (.int 0), .unset] [(.int 0)]) (fun _ k => XS.iload X263.here hx rfl (hb hby at_205) rfl k) ?_
        refine own_S (mkF m 209 #[iv mk, iv xi, iv yi, .val (.long d0), .second, .val (.long d1), .second, .val (.long d2), .second, rv da, rv a, .val (.int 0), .val (.int 2), .val (.int 0), .val (.int 2), .val (.int 0), .unset] [(.int 0), (.int 0)]) (fun _ k => XS.iload X263.here hx rfl (hb hby at_207) rfl k) ?_
        have hc277 : (0 : Int32) = (0 : Int32) := by decide
        refine own_S (mkF m 214 #[iv mk, iv xi, iv yi, .val (.long d0), .second, .val (.long d1), .second, .val (.long d2), .second, rv da, rv a, .val (.int 0), .val (.int 2), .val (.int 0), .val (.int 2), .val (.int 0), .unset] []) (fun _ k => XS.icmpYes X263.here hx rfl (pc0 := 209) (pc' := 214) rfl (hb hby at_209) rfl (teq hc277).1 (by decide) (by decide) k) ?_
        refine own_S (mkF m 216 #[iv mk, iv xi, iv yi, .val (.long d0), .second, .val (.long d1), .second, .val (.long d2), .second, rv da, rv a, .val (.int 0), .val (.int 2), .val (.int 0), .val (.int 2), .val (.int 0), .unset] [(.ref a)]) (fun _ k => XS.aload X263.here hx rfl (hb hby at_214) rfl rfl k) ?_
        obtain ⟨cq278, kq278, q278a, q278b, q278c⟩ := isOf hZ rfl F264
        obtain ⟨_, _, ⟨T278, L278, k278, n278⟩, -, X278, ⟨Lc278, hQ278, l278, y278, z278⟩, st278⟩ := X263.virtualBack hx (y := own_y2) (z := own_y2) hown (mvT hZ (own_g hw (i := 30) rfl)) (mvT hZ (own_g hw (i := 31) rfl)) (notFace_of_selects (args := #[]) (mvT hZ (own_g hw (i := 33) rfl))) (mvT hZ (own_g hw (i := 33) rfl)) (mvT hZ (own_g hw (i := 32) rfl)) (by decide) (backOf (W := 0) (own_rmne l Z a0 hw [] (a) ((1 : Int32)) T263.heap n0 Z263 F269 (by decide)) hZ (own_g hw (i := 34) rfl) (own_g hw (i := 3) rfl) (by decide) (by decide)) q278a q278c (g := (mkF m 216 #[iv mk, iv xi, iv yi, .val (.long d0), .second, .val (.long d1), .second, .val (.long d2), .second, rv da, rv a, .val (.int 0), .val (.int 2), .val (.int 0), .val (.int 2), .val (.int 0), .unset] [(.ref a)])) rfl (by rw [hml]; rfl) (Steps.refl _) (argsL := []) (rest := []) (lenOf own_pd___Z rfl) rfl (by show 2 * 0 + _ ≤ _; exact Nat.le_of_eq rfl) (hb hby at_216) (fun _ _ => ⟨rfl, rfl, (by decide : 5 + 0 ≤ _), (by decide : 18 + 0 ≤ _)⟩)
        dsimp only [Pt.U, Pt.locs, Pt.cells, Pt.slots] at X278 l278 y278 z278 st278 hQ278
        subst l278 y278 z278
        obtain ⟨rfl, N278q, e278⟩ := hQ278
        have N278 := Fr.app N263 N278q
        refine own_S (mkF m 219 #[iv mk, iv xi, iv yi, .val (.long d0), .second, .val (.long d1), .second, .val (.long d2), .second, rv da, rv a, .val (.int 0), .val (.int 2), .val (.int 0), .val (.int 2), .val (.int 0), .unset] [(.int 0)]) (fun _ k => st278.trans k) ?_
        have hc279 : (0 : Int32) = (0 : Int32) := by decide
        refine own_S (mkF m 224 #[iv mk, iv xi, iv yi, .val (.long d0), .second, .val (.long d1), .second, .val (.long d2), .second, rv da, rv a, .val (.int 0), .val (.int 2), .val (.int 0), .val (.int 2), .val (.int 0), .unset] []) (fun _ k => XS.ifYes X278.here hx rfl (pc0 := 219) (pc' := 224) rfl (hb hby at_219) rfl ((if0 _ _).trans (teq hc279).1) (by decide) (by decide) k) ?_
        refine own_S (mkF m 226 #[iv mk, iv xi, iv yi, .val (.long d0), .second, .val (.long d1), .second, .val (.long d2), .second, rv da, rv a, .val (.int 0), .val (.int 2), .val (.int 0), .val (.int 2), .val (.int 0), .unset] [(.ref a)]) (fun _ k => XS.aload X278.here hx rfl (hb hby at_224) rfl rfl k) ?_
        obtain ⟨cq280, kq280, q280a, q280b, q280c⟩ := isOf hZ e278 F264
        obtain ⟨_, _, ⟨T280, L280, k280, n280⟩, -, X280, ⟨Lc280, hQ280, l280, y280, z280⟩, st280⟩ := X278.virtualBack hx (y := own_y9) (z := own_y9) hown (mvT hZ (own_g hw (i := 55) rfl)) (mvT hZ (own_g hw (i := 56) rfl)) (notFace_of_selects (args := #[]) (mvT hZ (own_g hw (i := 58) rfl))) (mvT hZ (own_g hw (i := 58) rfl)) (mvT hZ (own_g hw (i := 57) rfl)) (by decide) (backOf (W := 0) (own_rmpo1 l Z a0 hw [] (a) (da) (ha) (pa) (oa) (kd) (kh) (kp) (ko) ([(.long d0), (.long d1), (.long d2)]) ([(.int (2 : Int32)), (.int (2 : Int32)), g2]) ([(.int (-1 : Int32)), (.int (-1 : Int32)), (.int (0 : Int32))]) ([(.long (of + (1 : Int64))), (.long o1), (.long ((of + (1 : Int64)) + (1 : Int64)))]) (((of + (1 : Int64)) + (1 : Int64))) ((2 : Int32)) T263.heap n0 Z263 F264 F265 F266 F267 F268 F269 F270 F273 F275 F276 F274 G_a G_ha G_pa NE_a_da NE_a_ha NE_a_pa NE_a_oa NE_da_ha NE_da_pa NE_da_oa NE_ha_pa NE_ha_oa NE_pa_oa rfl (by decide) (show (2 : Nat) < 3 from by decide)) hZ (own_g hw (i := 59) rfl) (own_g hw (i := 3) rfl) (by decide) (by decide)) q280a q280c (g := (mkF m 226 #[iv mk, iv xi, iv yi, .val (.long d0), .second, .val (.long d1), .second, .val (.long d2), .second, rv da, rv a, .val (.int 0), .val (.int 2), .val (.int 0), .val (.int 2), .val (.int 0), .unset] [(.ref a)])) rfl (by rw [hml]; rfl) (Steps.refl _) (argsL := []) (rest := []) (lenOf own_pd___I rfl) rfl (by show 2 * 0 + _ ≤ _; exact Nat.le_of_eq rfl) (hb hby at_226) (fun _ _ => ⟨rfl, e278, (by decide : 5 + 0 ≤ _), (by decide : 18 + 0 ≤ _)⟩)
        dsimp only [Pt.U, Pt.locs, Pt.cells, Pt.slots] at X280 l280 y280 z280 st280 hQ280
        subst l280 y280 z280
        obtain ⟨rfl, N280q, K280q, F281, F282, F283, F284, F285, F286, F287, F288, F289⟩ := hQ280
        have N280 := Fr.app N278 N280q
        refine own_S (mkF m 229 #[iv mk, iv xi, iv yi, .val (.long d0), .second, .val (.long d1), .second, .val (.long d2), .second, rv da, rv a, .val (.int 0), .val (.int 2), .val (.int 0), .val (.int 2), .val (.int 0), .unset] [(.int 2)]) (fun _ k => st280.trans k) ?_
        have F290 := F273.keep K280q (ninS (Ne.symm NE_a_da) (ninS NE_da_ha (ninS NE_da_pa nin0)))
        have F291 := F274.keep K280q (ninS (Ne.symm NE_a_oa) (ninS (Ne.symm NE_ha_oa) (ninS (Ne.symm NE_pa_oa) nin0)))
        have Z280 : n0 ≤ T280.heap.size := Nat.le_trans Z263 K280q.1
        refine own_S (mkF m 231 #[iv mk, iv xi, iv yi, .val (.long d0), .second, .val (.long d1), .second, .val (.long d2), .second, rv da, rv a, .val (.int 0), .val (.int 2), .val (.int 0), .val (.int 2), .val (.int 0), .val (.int 2)] []) (fun _ k => XS.istore X280.here hx rfl (hb hby at_229) rfl (l' := #[iv mk, iv xi, iv yi, .val (.long d0), .second, .val (.long d1), .second, .val (.long d2), .second, rv da, rv a, .val (.int 0), .val (.int 2), .val (.int 0), .val (.int 2), .val (.int 0), .val (.int 2)]) rfl k) ?_
        refine own_S (mkF m 233 #[iv mk, iv xi, iv yi, .val (.long d0), .second, .val (.long d1), .second, .val (.long d2), .second, rv da, rv a, .val (.int 0), .val (.int 2), .val (.int 0), .val (.int 2), .val (.int 0), .val (.int 2)] [(.int 2)]) (fun _ k => XS.iload X280.here hx rfl (hb hby at_231) rfl k) ?_
        refine own_S (mkF m 235 #[iv mk, iv xi, iv yi, .val (.long d0), .second, .val (.long d1), .second, .val (.long d2), .second, rv da, rv a, .val (.int 0), .val (.int 2), .val (.int 0), .val (.int 2), .val (.int 0), .val (.int 2)] [(.int 2), (.int 2)]) (fun _ k => XS.iload X280.here hx rfl (hb hby at_233) rfl k) ?_
        have hc292 : (2 : Int32) = (2 : Int32) := by decide
        refine own_S (mkF m 238 #[iv mk, iv xi, iv yi, .val (.long d0), .second, .val (.long d1), .second, .val (.long d2), .second, rv da, rv a, .val (.int 0), .val (.int 2), .val (.int 0), .val (.int 2), .val (.int 0), .val (.int 2)] []) (fun _ k => XS.icmpNo X280.here hx rfl (hb hby at_235) rfl (teq hc292).2 k) ?_
        refine own_S (mkF m 240 #[iv mk, iv xi, iv yi, .val (.long d0), .second, .val (.long d1), .second, .val (.long d2), .second, rv da, rv a, .val (.int 0), .val (.int 2), .val (.int 0), .val (.int 2), .val (.int 0), .val (.int 2)] [(.ref a)]) (fun _ k => XS.aload X280.here hx rfl (hb hby at_238) rfl rfl k) ?_
        obtain ⟨cq293, kq293, q293a, q293b, q293c⟩ := isOf hZ rfl F281
        obtain ⟨_, _, ⟨T293, L293, k293, n293⟩, -, X293, ⟨Lc293, hQ293, l293, y293, z293⟩, st293⟩ := X280.virtualBack hx (y := own_y2) (z := own_y2) hown (mvT hZ (own_g hw (i := 30) rfl)) (mvT hZ (own_g hw (i := 31) rfl)) (notFace_of_selects (args := #[]) (mvT hZ (own_g hw (i := 33) rfl))) (mvT hZ (own_g hw (i := 33) rfl)) (mvT hZ (own_g hw (i := 32) rfl)) (by decide) (backOf (W := 0) (own_rmem l Z a0 hw [] (a) T280.heap n0 Z280 F286) hZ (own_g hw (i := 34) rfl) (own_g hw (i := 3) rfl) (by decide) (by decide)) q293a q293c (g := (mkF m 240 #[iv mk, iv xi, iv yi, .val (.long d0), .second, .val (.long d1), .second, .val (.long d2), .second, rv da, rv a, .val (.int 0), .val (.int 2), .val (.int 0), .val (.int 2), .val (.int 0), .val (.int 2)] [(.ref a)])) rfl (by rw [hml]; rfl) (Steps.refl _) (argsL := []) (rest := []) (lenOf own_pd___Z rfl) rfl (by show 2 * 0 + _ ≤ _; exact Nat.le_of_eq rfl) (hb hby at_240) (fun _ _ => ⟨rfl, rfl, (by decide : 5 + 0 ≤ _), (by decide : 18 + 0 ≤ _)⟩)
        dsimp only [Pt.U, Pt.locs, Pt.cells, Pt.slots] at X293 l293 y293 z293 st293 hQ293
        subst l293 y293 z293
        obtain ⟨rfl, N293q, e293⟩ := hQ293
        have N293 := Fr.app N280 N293q
        refine own_S (mkF m 243 #[iv mk, iv xi, iv yi, .val (.long d0), .second, .val (.long d1), .second, .val (.long d2), .second, rv da, rv a, .val (.int 0), .val (.int 2), .val (.int 0), .val (.int 2), .val (.int 0), .val (.int 2)] [(.int 1)]) (fun _ k => st293.trans k) ?_
        have hc294 : ¬ ((1 : Int32) = (0 : Int32)) := by decide
        refine own_S (mkF m 246 #[iv mk, iv xi, iv yi, .val (.long d0), .second, .val (.long d1), .second, .val (.long d2), .second, rv da, rv a, .val (.int 0), .val (.int 2), .val (.int 0), .val (.int 2), .val (.int 0), .val (.int 2)] []) (fun _ k => XS.ifNo X293.here hx rfl (hb hby at_243) rfl ((if0 _ _).trans (feq hc294).1) k) ?_
        refine own_S (mkF m 247 #[iv mk, iv xi, iv yi, .val (.long d0), .second, .val (.long d1), .second, .val (.long d2), .second, rv da, rv a, .val (.int 0), .val (.int 2), .val (.int 0), .val (.int 2), .val (.int 0), .val (.int 2)] [(.int 1)]) (fun _ k => XS.iconst X293.here hx rfl (hb hby at_246) k) ?_
        refine own_S (mkF m 251 #[iv mk, iv xi, iv yi, .val (.long d0), .second, .val (.long d1), .second, .val (.long d2), .second, rv da, rv a, .val (.int 0), .val (.int 2), .val (.int 0), .val (.int 2), .val (.int 0), .val (.int 2)] [(.int 1)]) (fun _ k => XS.goto X293.here hx rfl (pc0 := 247) (pc' := 251) rfl (hb hby at_247) (by decide) (by decide) k) ?_
        exact own_retN X293 hx hlk (t := .boolean) hret (by simp) (hb hby at_251) (by rw [e293]; exact ⟨rfl, N293, trivial⟩) (by decide) (by decide)
  · -- av = 1
    subst q4_1
    rcases o_b with q295_0 | q296_1 | q297_2
    · -- bv = 0
      subst q295_0
      obtain ⟨cq298, kq298, q298a, q298b, q298c⟩ := isOf hZ e1 P0
      obtain ⟨_, _, ⟨T298, L298, k298, n298⟩, -, X298, ⟨Lc298, hQ298, l298, y298, z298⟩, st298⟩ := X1.virtualBack hx (y := own_y6) (z := own_y6) hown (mvT hZ (own_g hw (i := 36) rfl)) (mvT hZ (own_g hw (i := 37) rfl)) (notFace_of_selects (args := #[]) (mvT hZ (own_g hw (i := 39) rfl))) (mvT hZ (own_g hw (i := 39) rfl)) (mvT hZ (own_g hw (i := 38) rfl)) (by decide) (backOf (W := 0) (own_rmofA l Z a0 hw [] (a) (da) (ha) (pa) (oa) (kd) (kh) (kp) (ko) ([(.long d0), (.long d1), (.long d2)]) ([g0, g1, g2]) ([(.int (-1 : Int32)), (.int (-1 : Int32)), (.int (-1 : Int32))]) ([(.long o0), (.long o1), (.long o2)]) ((1 : Int32)) (of) hh n0 Z0 P0 P1 P2 P3 P4 P5 P6 P7 P8 P9 P10 G_a G_ha G_pa G_oa NE_a_da NE_a_ha NE_a_pa NE_a_oa NE_da_ha NE_da_pa NE_da_oa NE_ha_pa NE_ha_oa NE_pa_oa (by decide) (show (1 : Nat) < 3 from by decide) (show (1 : Nat) < 3 from by decide) rfl (show (0 : Nat) < 3 from by decide)) hZ (own_g hw (i := 40) rfl) (own_g hw (i := 3) rfl) (by decide) (by decide)) q298a q298c (g := (mkF m 104 #[iv mk, iv xi, iv yi, .val (.long d0), .second, .val (.long d1), .second, .val (.long d2), .second, rv da, rv a, .val (.int 1), .val (.int 0), .unset, .unset, .unset, .unset] [(.int 1), (.ref a)])) rfl (by rw [hml]; rfl) (Steps.refl _) (argsL := [(.int 1)]) (rest := []) (lenOf own_pd__I_V rfl) rfl (by show 2 * 0 + _ ≤ _; exact Nat.le_of_eq rfl) (hb hby at_104) (fun _ _ => ⟨rfl, e1, (by decide : 5 + 0 ≤ _), (by decide : 18 + 0 ≤ _)⟩)
      dsimp only [Pt.U, Pt.locs, Pt.cells, Pt.slots] at X298 l298 y298 z298 st298 hQ298
      subst l298 y298 z298
      obtain ⟨rfl, N298q, K298q, F299, F300, F301, F302, F303, F304, F305, F306, F307, F308⟩ := hQ298
      have N298 := Fr.app N1 N298q
      refine own_S (mkF m 107 #[iv mk, iv xi, iv yi, .val (.long d0), .second, .val (.long d1), .second, .val (.long d2), .second, rv da, rv a, .val (.int 1), .val (.int 0), .unset, .unset, .unset, .unset] []) (fun _ k => st298.trans k) ?_
      have F309 := P7.keep K298q (ninS (Ne.symm NE_a_da) (ninS NE_da_ha (ninS NE_da_pa (ninS NE_da_oa nin0))))
      have Z298 : n0 ≤ T298.heap.size := Nat.le_trans Z0 K298q.1
      have F310 : own_Ar Z T298.heap ha kh .int [(.int (1 : Int32)), g1, g2] := F306
      have F311 : own_Ar Z T298.heap pa kp .int [(.int (-1 : Int32)), (.int (0 : Int32)), (.int (-1 : Int32))] := F307
      have F312 : own_Ar Z T298.heap oa ko .long [(.long o0), (.long (of + (1 : Int64))), (.long o2)] := F308
      refine own_S (mkF m 109 #[iv mk, iv xi, iv yi, .val (.long d0), .second, .val (.long d1), .second, .val (.long d2), .second, rv da, rv a, .val (.int 1), .val (.int 0), .unset, .unset, .unset, .unset] [(.ref a)]) (fun _ k => XS.aload X298.here hx rfl (hb hby at_107) rfl rfl k) ?_
      refine own_S (mkF m 111 #[iv mk, iv xi, iv yi, .val (.long d0), .second, .val (.long d1), .second, .val (.long d2), .second, rv da, rv a, .val (.int 1), .val (.int 0), .unset, .unset, .unset, .unset] [(.int 0), (.ref a)]) (fun _ k => XS.iload X298.here hx rfl (hb hby at_109) rfl k) ?_
      by_cases hB : (d0 < d1 ∨ (d0 = d1 ∧ (of + (1 : Int64)) < ((of + (1 : Int64)) + (1 : Int64))))
      ·
        obtain ⟨cq313, kq313, q313a, q313b, q313c⟩ := isOf hZ rfl F299
        obtain ⟨_, _, ⟨T313, L313, k313, n313⟩, -, X313, ⟨Lc313, hQ313, l313, y313, z313⟩, st313⟩ := X298.virtualBack hx (y := own_y6) (z := own_y6) hown (mvT hZ (own_g hw (i := 36) rfl)) (mvT hZ (own_g hw (i := 37) rfl)) (notFace_of_selects (args := #[]) (mvT hZ (own_g hw (i := 39) rfl))) (mvT hZ (own_g hw (i := 39) rfl)) (mvT hZ (own_g hw (i := 38) rfl)) (by decide) (backOf (W := 0) (own_rmof1m l Z a0 hw [] (a) (da) (ha) (pa) (oa) (kd) (kh) (kp) (ko) ([(.long d0), (.long d1), (.long d2)]) ([(.int (1 : Int32)), g1, g2]) ([(.int (-1 : Int32)), (.int (0 : Int32)), (.int (-1 : Int32))]) ([(.long o0), (.long (of + (1 : Int64))), (.long o2)]) ((0 : Int32)) ((1 : Int32)) ((of + (1 : Int64))) (d0) (d1) ((of + (1 : Int64))) T298.heap n0 Z298 F299 F300 F301 F302 F303 F304 F305 F309 F310 F311 F312 G_a G_ha G_pa G_oa NE_a_da NE_a_ha NE_a_pa NE_a_oa NE_da_ha NE_da_pa NE_da_oa NE_ha_pa NE_ha_oa NE_pa_oa (by decide) (show (0 : Nat) < 3 from by decide) (show (0 : Nat) < 3 from by decide) rfl (show (1 : Nat) < 3 from by decide) rfl (by decide) (show (1 : Nat) < 3 from by decide) (by decide) rfl rfl rfl hB) hZ (own_g hw (i := 40) rfl) (own_g hw (i := 3) rfl) (by decide) (by decide)) q313a q313c (g := (mkF m 111 #[iv mk, iv xi, iv yi, .val (.long d0), .second, .val (.long d1), .second, .val (.long d2), .second, rv da, rv a, .val (.int 1), .val (.int 0), .unset, .unset, .unset, .unset] [(.int 0), (.ref a)])) rfl (by rw [hml]; rfl) (Steps.refl _) (argsL := [(.int 0)]) (rest := []) (lenOf own_pd__I_V rfl) rfl (by show 2 * 0 + _ ≤ _; exact Nat.le_of_eq rfl) (hb hby at_111) (fun _ _ => ⟨rfl, rfl, (by decide : 5 + 0 ≤ _), (by decide : 18 + 0 ≤ _)⟩)
        dsimp only [Pt.U, Pt.locs, Pt.cells, Pt.slots] at X313 l313 y313 z313 st313 hQ313
        subst l313 y313 z313
        obtain ⟨rfl, N313q, K313q, F314, F315, F316, F317, F318, F319, F320, F321, F322, F323⟩ := hQ313
        have N313 := Fr.app N298 N313q
        refine own_S (mkF m 114 #[iv mk, iv xi, iv yi, .val (.long d0), .second, .val (.long d1), .second, .val (.long d2), .second, rv da, rv a, .val (.int 1), .val (.int 0), .unset, .unset, .unset, .unset] []) (fun _ k => st313.trans k) ?_
        have F324 := F309.keep K313q (ninS (Ne.symm NE_a_da) (ninS NE_da_ha (ninS NE_da_pa (ninS NE_da_oa nin0))))
        have Z313 : n0 ≤ T313.heap.size := Nat.le_trans Z298 K313q.1
        have F325 : own_Ar Z T313.heap ha kh .int [(.int (0 : Int32)), (.int (1 : Int32)), g2] := F321
        have F326 : own_Ar Z T313.heap pa kp .int [(.int (0 : Int32)), (.int (1 : Int32)), (.int (-1 : Int32))] := F322
        have F327 : own_Ar Z T313.heap oa ko .long [(.long ((of + (1 : Int64)) + (1 : Int64))), (.long (of + (1 : Int64))), (.long o2)] := F323
        refine own_S (mkF m 116 #[iv mk, iv xi, iv yi, .val (.long d0), .second, .val (.long d1), .second, .val (.long d2), .second, rv da, rv a, .val (.int 1), .val (.int 0), .unset, .unset, .unset, .unset] [(.ref a)]) (fun _ k => XS.aload X313.here hx rfl (hb hby at_114) rfl rfl k) ?_
        obtain ⟨cq328, kq328, q328a, q328b, q328c⟩ := isOf hZ rfl F314
        obtain ⟨_, _, ⟨T328, L328, k328, n328⟩, -, X328, ⟨Lc328, hQ328, l328, y328, z328⟩, st328⟩ := X313.virtualBack hx (y := own_y2) (z := own_y2) hown (mvT hZ (own_g hw (i := 30) rfl)) (mvT hZ (own_g hw (i := 31) rfl)) (notFace_of_selects (args := #[]) (mvT hZ (own_g hw (i := 33) rfl))) (mvT hZ (own_g hw (i := 33) rfl)) (mvT hZ (own_g hw (i := 32) rfl)) (by decide) (backOf (W := 0) (own_rmne l Z a0 hw [] (a) ((2 : Int32)) T313.heap n0 Z313 F319 (by decide)) hZ (own_g hw (i := 34) rfl) (own_g hw (i := 3) rfl) (by decide) (by decide)) q328a q328c (g := (mkF m 116 #[iv mk, iv xi, iv yi, .val (.long d0), .second, .val (.long d1), .second, .val (.long d2), .second, rv da, rv a, .val (.int 1), .val (.int 0), .unset, .unset, .unset, .unset] [(.ref a)])) rfl (by rw [hml]; rfl) (Steps.refl _) (argsL := []) (rest := []) (lenOf own_pd___Z rfl) rfl (by show 2 * 0 + _ ≤ _; exact Nat.le_of_eq rfl) (hb hby at_116) (fun _ _ => ⟨rfl, rfl, (by decide : 5 + 0 ≤ _), (by decide : 18 + 0 ≤ _)⟩)
        dsimp only [Pt.U, Pt.locs, Pt.cells, Pt.slots] at X328 l328 y328 z328 st328 hQ328
        subst l328 y328 z328
        obtain ⟨rfl, N328q, e328⟩ := hQ328
        have N328 := Fr.app N313 N328q
        refine own_S (mkF m 119 #[iv mk, iv xi, iv yi, .val (.long d0), .second, .val (.long d1), .second, .val (.long d2), .second, rv da, rv a, .val (.int 1), .val (.int 0), .unset, .unset, .unset, .unset] [(.int 0)]) (fun _ k => st328.trans k) ?_
        have hc329 : (0 : Int32) = (0 : Int32) := by decide
        refine own_S (mkF m 124 #[iv mk, iv xi, iv yi, .val (.long d0), .second, .val (.long d1), .second, .val (.long d2), .second, rv da, rv a, .val (.int 1), .val (.int 0), .unset, .unset, .unset, .unset] []) (fun _ k => XS.ifYes X328.here hx rfl (pc0 := 119) (pc' := 124) rfl (hb hby at_119) rfl ((if0 _ _).trans (teq hc329).1) (by decide) (by decide) k) ?_
        refine own_S (mkF m 126 #[iv mk, iv xi, iv yi, .val (.long d0), .second, .val (.long d1), .second, .val (.long d2), .second, rv da, rv a, .val (.int 1), .val (.int 0), .unset, .unset, .unset, .unset] [(.int 1)]) (fun _ k => XS.iload X328.here hx rfl (hb hby at_124) rfl k) ?_
        refine own_S (mkF m 128 #[iv mk, iv xi, iv yi, .val (.long d0), .second, .val (.long d1), .second, .val (.long d2), .second, rv da, rv a, .val (.int 1), .val (.int 0), .unset, .unset, .unset, .unset] [(.int 0), (.int 1)]) (fun _ k => XS.iload X328.here hx rfl (hb hby at_126) rfl k) ?_
        have hc330 : ¬ ((1 : Int32) = (0 : Int32)) := by decide
        refine own_S (mkF m 159 #[iv mk, iv xi, iv yi, .val (.long d0), .second, .val (.long d1), .second, .val (.long d2), .second, rv da, rv a, .val (.int 1), .val (.int 0), .unset, .unset, .unset, .unset] []) (fun _ k => XS.icmpYes X328.here hx rfl (pc0 := 128) (pc' := 159) rfl (hb hby at_128) rfl (feq hc330).2 (by decide) (by decide) k) ?_
        refine own_S (mkF m 161 #[iv mk, iv xi, iv yi, .val (.long d0), .second, .val (.long d1), .second, .val (.long d2), .second, rv da, rv a, .val (.int 1), .val (.int 0), .unset, .unset, .unset, .unset] [(.ref da)]) (fun _ k => XS.aload X328.here hx rfl (hb hby at_159) rfl rfl k) ?_
        refine own_S (mkF m 163 #[iv mk, iv xi, iv yi, .val (.long d0), .second, .val (.long d1), .second, .val (.long d2), .second, rv da, rv a, .val (.int 1), .val (.int 0), .unset, .unset, .unset, .unset] [(.int 1), (.ref da)]) (fun _ k => XS.iload X328.here hx rfl (hb hby at_161) rfl k) ?_
        refine own_S (mkF m 164 #[iv mk, iv xi, iv yi, .val (.long d0), .second, .val (.long d1), .second, .val (.long d2), .second, rv da, rv a, .val (.int 1), .val (.int 0), .unset, .unset, .unset, .unset] [(.long d1)]) (fun _ k => own_ldJ X328 hx hZ e328 F324 (by decide) rfl (g := (mkF m 163 #[iv mk, iv xi, iv yi, .val (.long d0), .second, .val (.long d1), .second, .val (.long d2), .second, rv da, rv a, .val (.int 1), .val (.int 0), .unset, .unset, .unset, .unset] [(.int 1), (.ref da)])) rfl rfl (hb hby at_163) _ k) ?_
        refine own_S (mkF m 166 #[iv mk, iv xi, iv yi, .val (.long d0), .second, .val (.long d1), .second, .val (.long d2), .second, rv da, rv a, .val (.int 1), .val (.int 0), .unset, .unset, .unset, .unset] [(.ref da), (.long d1)]) (fun _ k => XS.aload X328.here hx rfl (hb hby at_164) rfl rfl k) ?_
        refine own_S (mkF m 168 #[iv mk, iv xi, iv yi, .val (.long d0), .second, .val (.long d1), .second, .val (.long d2), .second, rv da, rv a, .val (.int 1), .val (.int 0), .unset, .unset, .unset, .unset] [(.int 0), (.ref da), (.long d1)]) (fun _ k => XS.iload X328.here hx rfl (hb hby at_166) rfl k) ?_
        refine own_S (mkF m 169 #[iv mk, iv xi, iv yi, .val (.long d0), .second, .val (.long d1), .second, .val (.long d2), .second, rv da, rv a, .val (.int 1), .val (.int 0), .unset, .unset, .unset, .unset] [(.long d0), (.long d1)]) (fun _ k => own_ldJ X328 hx hZ e328 F324 (by decide) rfl (g := (mkF m 168 #[iv mk, iv xi, iv yi, .val (.long d0), .second, .val (.long d1), .second, .val (.long d2), .second, rv da, rv a, .val (.int 1), .val (.int 0), .unset, .unset, .unset, .unset] [(.int 0), (.ref da), (.long d1)])) rfl rfl (hb hby at_168) _ k) ?_
        refine own_S (mkF m 170 #[iv mk, iv xi, iv yi, .val (.long d0), .second, .val (.long d1), .second, .val (.long d2), .second, rv da, rv a, .val (.int 1), .val (.int 0), .unset, .unset, .unset, .unset] [(.int (lcmpW d1 d0))]) (fun _ k => XS.lcmp X328.here hx rfl (hb hby at_169) rfl k) ?_
        have hc331 : ¬ (d1 < d0) := (own_nlt hB)
        refine own_S (mkF m 178 #[iv mk, iv xi, iv yi, .val (.long d0), .second, .val (.long d1), .second, .val (.long d2), .second, rv da, rv a, .val (.int 1), .val (.int 0), .unset, .unset, .unset, .unset] []) (fun _ k => XS.ifYes X328.here hx rfl (pc0 := 170) (pc' := 178) rfl (hb hby at_170) rfl ((if0 _ _).trans (flt (fun q => hc331 ((lw_lt d1 d0).mp q))).2.1) (by decide) (by decide) k) ?_
        refine own_S (mkF m 180 #[iv mk, iv xi, iv yi, .val (.long d0), .second, .val (.long d1), .second, .val (.long d2), .second, rv da, rv a, .val (.int 1), .val (.int 0), .unset, .unset, .unset, .unset] [(.int 0)]) (fun _ k => XS.iload X328.here hx rfl (hb hby at_178) rfl k) ?_
        refine own_S (mkF m 182 #[iv mk, iv xi, iv yi, .val (.long d0), .second, .val (.long d1), .second, .val (.long d2), .second, rv da, rv a, .val (.int 1), .val (.int 0), .val (.int 0), .unset, .unset, .unset] []) (fun _ k => XS.istore X328.here hx rfl (hb hby at_180) rfl (l' := #[iv mk, iv xi, iv yi, .val (.long d0), .second, .val (.long d1), .second, .val (.long d2), .second, rv da, rv a, .val (.int 1), .val (.int 0), .val (.int 0), .unset, .unset, .unset]) rfl k) ?_
        refine own_S (mkF m 184 #[iv mk, iv xi, iv yi, .val (.long d0), .second, .val (.long d1), .second, .val (.long d2), .second, rv da, rv a, .val (.int 1), .val (.int 0), .val (.int 0), .unset, .unset, .unset] [(.int 0)]) (fun _ k => XS.iload X328.here hx rfl (hb hby at_182) rfl k) ?_
        refine own_S (mkF m 186 #[iv mk, iv xi, iv yi, .val (.long d0), .second, .val (.long d1), .second, .val (.long d2), .second, rv da, rv a, .val (.int 1), .val (.int 0), .val (.int 0), .unset, .unset, .unset] [(.int 1), (.int 0)]) (fun _ k => XS.iload X328.here hx rfl (hb hby at_184) rfl k) ?_
        have hc332 : ¬ ((0 : Int32) = (1 : Int32)) := by decide
        refine own_S (mkF m 194 #[iv mk, iv xi, iv yi, .val (.long d0), .second, .val (.long d1), .second, .val (.long d2), .second, rv da, rv a, .val (.int 1), .val (.int 0), .val (.int 0), .unset, .unset, .unset] []) (fun _ k => XS.icmpYes X328.here hx rfl (pc0 := 186) (pc' := 194) rfl (hb hby at_186) rfl (feq hc332).2 (by decide) (by decide) k) ?_
        refine own_S (mkF m 196 #[iv mk, iv xi, iv yi, .val (.long d0), .second, .val (.long d1), .second, .val (.long d2), .second, rv da, rv a, .val (.int 1), .val (.int 0), .val (.int 0), .unset, .unset, .unset] [(.int 1)]) (fun _ k => XS.iload X328.here hx rfl (hb hby at_194) rfl k) ?_
        refine own_S (mkF m 198 #[iv mk, iv xi, iv yi, .val (.long d0), .second, .val (.long d1), .second, .val (.long d2), .second, rv da, rv a, .val (.int 1), .val (.int 0), .val (.int 0), .val (.int 1), .unset, .unset] []) (fun _ k => XS.istore X328.here hx rfl (hb hby at_196) rfl (l' := #[iv mk, iv xi, iv yi, .val (.long d0), .second, .val (.long d1), .second, .val (.long d2), .second, rv da, rv a, .val (.int 1), .val (.int 0), .val (.int 0), .val (.int 1), .unset, .unset]) rfl k) ?_
        refine own_S (mkF m 200 #[iv mk, iv xi, iv yi, .val (.long d0), .second, .val (.long d1), .second, .val (.long d2), .second, rv da, rv a, .val (.int 1), .val (.int 0), .val (.int 0), .val (.int 1), .unset, .unset] [(.ref a)]) (fun _ k => XS.aload X328.here hx rfl (hb hby at_198) rfl rfl k) ?_
        obtain ⟨cq333, kq333, q333a, q333b, q333c⟩ := isOf hZ e328 F314
        obtain ⟨_, _, ⟨T333, L333, k333, n333⟩, -, X333, ⟨Lc333, hQ333, l333, y333, z333⟩, st333⟩ := X328.virtualBack hx (y := own_y9) (z := own_y9) hown (mvT hZ (own_g hw (i := 55) rfl)) (mvT hZ (own_g hw (i := 56) rfl)) (notFace_of_selects (args := #[]) (mvT hZ (own_g hw (i := 58) rfl))) (mvT hZ (own_g hw (i := 58) rfl)) (mvT hZ (own_g hw (i := 57) rfl)) (by decide) (backOf (W := 0) (own_rmpo2 l Z a0 hw [] (a) (da) (ha) (pa) (oa) (kd) (kh) (kp) (ko) ([(.long d0), (.long d1), (.long d2)]) ([(.int (0 : Int32)), (.int (1 : Int32)), g2]) ([(.int (0 : Int32)), (.int (1 : Int32)), (.int (-1 : Int32))]) ([(.long ((of + (1 : Int64)) + (1 : Int64))), (.long (of + (1 : Int64))), (.long o2)]) (((of + (1 : Int64)) + (1 : Int64))) ((0 : Int32)) ((1 : Int32)) T313.heap n0 Z313 F314 F315 F316 F317 F318 F319 F320 F324 F325 F326 F327 G_a G_ha G_pa NE_a_da NE_a_ha NE_a_pa NE_a_oa NE_da_ha NE_da_pa NE_da_oa NE_ha_pa NE_ha_oa NE_pa_oa rfl (by decide) (show (0 : Nat) < 3 from by decide) rfl (by decide) (show (1 : Nat) < 3 from by decide)) hZ (own_g hw (i := 59) rfl) (own_g hw (i := 3) rfl) (by decide) (by decide)) q333a q333c (g := (mkF m 200 #[iv mk, iv xi, iv yi, .val (.long d0), .second, .val (.long d1), .second, .val (.long d2), .second, rv da, rv a, .val (.int 1), .val (.int 0), .val (.int 0), .val (.int 1), .unset, .unset] [(.ref a)])) rfl (by rw [hml]; rfl) (Steps.refl _) (argsL := []) (rest := []) (lenOf own_pd___I rfl) rfl (by show 2 * 0 + _ ≤ _; exact Nat.le_of_eq rfl) (hb hby at_200) (fun _ _ => ⟨rfl, e328, (by decide : 5 + 0 ≤ _), (by decide : 18 + 0 ≤ _)⟩)
        dsimp only [Pt.U, Pt.locs, Pt.cells, Pt.slots] at X333 l333 y333 z333 st333 hQ333
        subst l333 y333 z333
        obtain ⟨rfl, N333q, K333q, F334, F335, F336, F337, F338, F339, F340, F341, F342⟩ := hQ333
        have N333 := Fr.app N328 N333q
        refine own_S (mkF m 203 #[iv mk, iv xi, iv yi, .val (.long d0), .second, .val (.long d1), .second, .val (.long d2), .second, rv da, rv a, .val (.int 1), .val (.int 0), .val (.int 0), .val (.int 1), .unset, .unset] [(.int 0)]) (fun _ k => st333.trans k) ?_
        have F343 := F324.keep K333q (ninS (Ne.symm NE_a_da) (ninS NE_da_ha (ninS NE_da_pa nin0)))
        have F344 := F327.keep K333q (ninS (Ne.symm NE_a_oa) (ninS (Ne.symm NE_ha_oa) (ninS (Ne.symm NE_pa_oa) nin0)))
        have Z333 : n0 ≤ T333.heap.size := Nat.le_trans Z313 K333q.1
        have F345 : own_Ar Z T333.heap ha kh .int [(.int (1 : Int32)), (.int (1 : Int32)), g2] := F341
        have F346 : own_Ar Z T333.heap pa kp .int [(.int (-1 : Int32)), (.int (0 : Int32)), (.int (-1 : Int32))] := F342
        refine own_S (mkF m 205 #[iv mk, iv xi, iv yi, .val (.long d0), .second, .val (.long d1), .second, .val (.long d2), .second, rv da, rv a, .val (.int 1), .val (.int 0), .val (.int 0), .val (.int 1), .val (.int 0), .unset] []) (fun _ k => XS.istore X333.here hx rfl (hb hby at_203) rfl (l' := #[iv mk, iv xi, iv yi, .val (.long d0), .second, .val (.long d1), .second, .val (.long d2), .second, rv da, rv a, .val (.int 1), .val (.int 0), .val (.int 0), .val (.int 1), .val (.int 0), .unset]) rfl k) ?_
        refine own_S (mkF m 207 #[iv mk, iv xi, iv yi, .val (.long d0), .second, .val (.long d1), .second, .val (.long d2), .second, rv da, rv a, .val (.int 1), .val (.int 0), .val (.int 0), .val (.int 1), .val (.int 0), .unset] [(.int 0)]) (fun _ k => XS.iload X333.here hx rfl (hb hby at_205) rfl k) ?_
        refine own_S (mkF m 209 #[iv mk, iv xi, iv yi, .val (.long d0), .second, .val (.long d1), .second, .val (.long d2), .second, rv da, rv a, .val (.int 1), .val (.int 0), .val (.int 0), .val (.int 1), .val (.int 0), .unset] [(.int 0), (.int 0)]) (fun _ k => XS.iload X333.here hx rfl (hb hby at_207) rfl k) ?_
        have hc347 : (0 : Int32) = (0 : Int32) := by decide
        refine own_S (mkF m 214 #[iv mk, iv xi, iv yi, .val (.long d0), .second, .val (.long d1), .second, .val (.long d2), .second, rv da, rv a, .val (.int 1), .val (.int 0), .val (.int 0), .val (.int 1), .val (.int 0), .unset] []) (fun _ k => XS.icmpYes X333.here hx rfl (pc0 := 209) (pc' := 214) rfl (hb hby at_209) rfl (teq hc347).1 (by decide) (by decide) k) ?_
        refine own_S (mkF m 216 #[iv mk, iv xi, iv yi, .val (.long d0), .second, .val (.long d1), .second, .val (.long d2), .second, rv da, rv a, .val (.int 1), .val (.int 0), .val (.int 0), .val (.int 1), .val (.int 0), .unset] [(.ref a)]) (fun _ k => XS.aload X333.here hx rfl (hb hby at_214) rfl rfl k) ?_
        obtain ⟨cq348, kq348, q348a, q348b, q348c⟩ := isOf hZ rfl F334
        obtain ⟨_, _, ⟨T348, L348, k348, n348⟩, -, X348, ⟨Lc348, hQ348, l348, y348, z348⟩, st348⟩ := X333.virtualBack hx (y := own_y2) (z := own_y2) hown (mvT hZ (own_g hw (i := 30) rfl)) (mvT hZ (own_g hw (i := 31) rfl)) (notFace_of_selects (args := #[]) (mvT hZ (own_g hw (i := 33) rfl))) (mvT hZ (own_g hw (i := 33) rfl)) (mvT hZ (own_g hw (i := 32) rfl)) (by decide) (backOf (W := 0) (own_rmne l Z a0 hw [] (a) ((1 : Int32)) T333.heap n0 Z333 F339 (by decide)) hZ (own_g hw (i := 34) rfl) (own_g hw (i := 3) rfl) (by decide) (by decide)) q348a q348c (g := (mkF m 216 #[iv mk, iv xi, iv yi, .val (.long d0), .second, .val (.long d1), .second, .val (.long d2), .second, rv da, rv a, .val (.int 1), .val (.int 0), .val (.int 0), .val (.int 1), .val (.int 0), .unset] [(.ref a)])) rfl (by rw [hml]; rfl) (Steps.refl _) (argsL := []) (rest := []) (lenOf own_pd___Z rfl) rfl (by show 2 * 0 + _ ≤ _; exact Nat.le_of_eq rfl) (hb hby at_216) (fun _ _ => ⟨rfl, rfl, (by decide : 5 + 0 ≤ _), (by decide : 18 + 0 ≤ _)⟩)
        dsimp only [Pt.U, Pt.locs, Pt.cells, Pt.slots] at X348 l348 y348 z348 st348 hQ348
        subst l348 y348 z348
        obtain ⟨rfl, N348q, e348⟩ := hQ348
        have N348 := Fr.app N333 N348q
        refine own_S (mkF m 219 #[iv mk, iv xi, iv yi, .val (.long d0), .second, .val (.long d1), .second, .val (.long d2), .second, rv da, rv a, .val (.int 1), .val (.int 0), .val (.int 0), .val (.int 1), .val (.int 0), .unset] [(.int 0)]) (fun _ k => st348.trans k) ?_
        have hc349 : (0 : Int32) = (0 : Int32) := by decide
        refine own_S (mkF m 224 #[iv mk, iv xi, iv yi, .val (.long d0), .second, .val (.long d1), .second, .val (.long d2), .second, rv da, rv a, .val (.int 1), .val (.int 0), .val (.int 0), .val (.int 1), .val (.int 0), .unset] []) (fun _ k => XS.ifYes X348.here hx rfl (pc0 := 219) (pc' := 224) rfl (hb hby at_219) rfl ((if0 _ _).trans (teq hc349).1) (by decide) (by decide) k) ?_
        refine own_S (mkF m 226 #[iv mk, iv xi, iv yi, .val (.long d0), .second, .val (.long d1), .second, .val (.long d2), .second, rv da, rv a, .val (.int 1), .val (.int 0), .val (.int 0), .val (.int 1), .val (.int 0), .unset] [(.ref a)]) (fun _ k => XS.aload X348.here hx rfl (hb hby at_224) rfl rfl k) ?_
        obtain ⟨cq350, kq350, q350a, q350b, q350c⟩ := isOf hZ e348 F334
        obtain ⟨_, _, ⟨T350, L350, k350, n350⟩, -, X350, ⟨Lc350, hQ350, l350, y350, z350⟩, st350⟩ := X348.virtualBack hx (y := own_y9) (z := own_y9) hown (mvT hZ (own_g hw (i := 55) rfl)) (mvT hZ (own_g hw (i := 56) rfl)) (notFace_of_selects (args := #[]) (mvT hZ (own_g hw (i := 58) rfl))) (mvT hZ (own_g hw (i := 58) rfl)) (mvT hZ (own_g hw (i := 57) rfl)) (by decide) (backOf (W := 0) (own_rmpo1 l Z a0 hw [] (a) (da) (ha) (pa) (oa) (kd) (kh) (kp) (ko) ([(.long d0), (.long d1), (.long d2)]) ([(.int (1 : Int32)), (.int (1 : Int32)), g2]) ([(.int (-1 : Int32)), (.int (0 : Int32)), (.int (-1 : Int32))]) ([(.long ((of + (1 : Int64)) + (1 : Int64))), (.long (of + (1 : Int64))), (.long o2)]) (((of + (1 : Int64)) + (1 : Int64))) ((1 : Int32)) T333.heap n0 Z333 F334 F335 F336 F337 F338 F339 F340 F343 F345 F346 F344 G_a G_ha G_pa NE_a_da NE_a_ha NE_a_pa NE_a_oa NE_da_ha NE_da_pa NE_da_oa NE_ha_pa NE_ha_oa NE_pa_oa rfl (by decide) (show (1 : Nat) < 3 from by decide)) hZ (own_g hw (i := 59) rfl) (own_g hw (i := 3) rfl) (by decide) (by decide)) q350a q350c (g := (mkF m 226 #[iv mk, iv xi, iv yi, .val (.long d0), .second, .val (.long d1), .second, .val (.long d2), .second, rv da, rv a, .val (.int 1), .val (.int 0), .val (.int 0), .val (.int 1), .val (.int 0), .unset] [(.ref a)])) rfl (by rw [hml]; rfl) (Steps.refl _) (argsL := []) (rest := []) (lenOf own_pd___I rfl) rfl (by show 2 * 0 + _ ≤ _; exact Nat.le_of_eq rfl) (hb hby at_226) (fun _ _ => ⟨rfl, e348, (by decide : 5 + 0 ≤ _), (by decide : 18 + 0 ≤ _)⟩)
        dsimp only [Pt.U, Pt.locs, Pt.cells, Pt.slots] at X350 l350 y350 z350 st350 hQ350
        subst l350 y350 z350
        obtain ⟨rfl, N350q, K350q, F351, F352, F353, F354, F355, F356, F357, F358, F359⟩ := hQ350
        have N350 := Fr.app N348 N350q
        refine own_S (mkF m 229 #[iv mk, iv xi, iv yi, .val (.long d0), .second, .val (.long d1), .second, .val (.long d2), .second, rv da, rv a, .val (.int 1), .val (.int 0), .val (.int 0), .val (.int 1), .val (.int 0), .unset] [(.int 1)]) (fun _ k => st350.trans k) ?_
        have F360 := F343.keep K350q (ninS (Ne.symm NE_a_da) (ninS NE_da_ha (ninS NE_da_pa nin0)))
        have F361 := F344.keep K350q (ninS (Ne.symm NE_a_oa) (ninS (Ne.symm NE_ha_oa) (ninS (Ne.symm NE_pa_oa) nin0)))
        have Z350 : n0 ≤ T350.heap.size := Nat.le_trans Z333 K350q.1
        refine own_S (mkF m 231 #[iv mk, iv xi, iv yi, .val (.long d0), .second, .val (.long d1), .second, .val (.long d2), .second, rv da, rv a, .val (.int 1), .val (.int 0), .val (.int 0), .val (.int 1), .val (.int 0), .val (.int 1)] []) (fun _ k => XS.istore X350.here hx rfl (hb hby at_229) rfl (l' := #[iv mk, iv xi, iv yi, .val (.long d0), .second, .val (.long d1), .second, .val (.long d2), .second, rv da, rv a, .val (.int 1), .val (.int 0), .val (.int 0), .val (.int 1), .val (.int 0), .val (.int 1)]) rfl k) ?_
        refine own_S (mkF m 233 #[iv mk, iv xi, iv yi, .val (.long d0), .second, .val (.long d1), .second, .val (.long d2), .second, rv da, rv a, .val (.int 1), .val (.int 0), .val (.int 0), .val (.int 1), .val (.int 0), .val (.int 1)] [(.int 1)]) (fun _ k => XS.iload X350.here hx rfl (hb hby at_231) rfl k) ?_
        refine own_S (mkF m 235 #[iv mk, iv xi, iv yi, .val (.long d0), .second, .val (.long d1), .second, .val (.long d2), .second, rv da, rv a, .val (.int 1), .val (.int 0), .val (.int 0), .val (.int 1), .val (.int 0), .val (.int 1)] [(.int 1), (.int 1)]) (fun _ k => XS.iload X350.here hx rfl (hb hby at_233) rfl k) ?_
        have hc362 : (1 : Int32) = (1 : Int32) := by decide
        refine own_S (mkF m 238 #[iv mk, iv xi, iv yi, .val (.long d0), .second, .val (.long d1), .second, .val (.long d2), .second, rv da, rv a, .val (.int 1), .val (.int 0), .val (.int 0), .val (.int 1), .val (.int 0), .val (.int 1)] []) (fun _ k => XS.icmpNo X350.here hx rfl (hb hby at_235) rfl (teq hc362).2 k) ?_
        refine own_S (mkF m 240 #[iv mk, iv xi, iv yi, .val (.long d0), .second, .val (.long d1), .second, .val (.long d2), .second, rv da, rv a, .val (.int 1), .val (.int 0), .val (.int 0), .val (.int 1), .val (.int 0), .val (.int 1)] [(.ref a)]) (fun _ k => XS.aload X350.here hx rfl (hb hby at_238) rfl rfl k) ?_
        obtain ⟨cq363, kq363, q363a, q363b, q363c⟩ := isOf hZ rfl F351
        obtain ⟨_, _, ⟨T363, L363, k363, n363⟩, -, X363, ⟨Lc363, hQ363, l363, y363, z363⟩, st363⟩ := X350.virtualBack hx (y := own_y2) (z := own_y2) hown (mvT hZ (own_g hw (i := 30) rfl)) (mvT hZ (own_g hw (i := 31) rfl)) (notFace_of_selects (args := #[]) (mvT hZ (own_g hw (i := 33) rfl))) (mvT hZ (own_g hw (i := 33) rfl)) (mvT hZ (own_g hw (i := 32) rfl)) (by decide) (backOf (W := 0) (own_rmem l Z a0 hw [] (a) T350.heap n0 Z350 F356) hZ (own_g hw (i := 34) rfl) (own_g hw (i := 3) rfl) (by decide) (by decide)) q363a q363c (g := (mkF m 240 #[iv mk, iv xi, iv yi, .val (.long d0), .second, .val (.long d1), .second, .val (.long d2), .second, rv da, rv a, .val (.int 1), .val (.int 0), .val (.int 0), .val (.int 1), .val (.int 0), .val (.int 1)] [(.ref a)])) rfl (by rw [hml]; rfl) (Steps.refl _) (argsL := []) (rest := []) (lenOf own_pd___Z rfl) rfl (by show 2 * 0 + _ ≤ _; exact Nat.le_of_eq rfl) (hb hby at_240) (fun _ _ => ⟨rfl, rfl, (by decide : 5 + 0 ≤ _), (by decide : 18 + 0 ≤ _)⟩)
        dsimp only [Pt.U, Pt.locs, Pt.cells, Pt.slots] at X363 l363 y363 z363 st363 hQ363
        subst l363 y363 z363
        obtain ⟨rfl, N363q, e363⟩ := hQ363
        have N363 := Fr.app N350 N363q
        refine own_S (mkF m 243 #[iv mk, iv xi, iv yi, .val (.long d0), .second, .val (.long d1), .second, .val (.long d2), .second, rv da, rv a, .val (.int 1), .val (.int 0), .val (.int 0), .val (.int 1), .val (.int 0), .val (.int 1)] [(.int 1)]) (fun _ k => st363.trans k) ?_
        have hc364 : ¬ ((1 : Int32) = (0 : Int32)) := by decide
        refine own_S (mkF m 246 #[iv mk, iv xi, iv yi, .val (.long d0), .second, .val (.long d1), .second, .val (.long d2), .second, rv da, rv a, .val (.int 1), .val (.int 0), .val (.int 0), .val (.int 1), .val (.int 0), .val (.int 1)] []) (fun _ k => XS.ifNo X363.here hx rfl (hb hby at_243) rfl ((if0 _ _).trans (feq hc364).1) k) ?_
        refine own_S (mkF m 247 #[iv mk, iv xi, iv yi, .val (.long d0), .second, .val (.long d1), .second, .val (.long d2), .second, rv da, rv a, .val (.int 1), .val (.int 0), .val (.int 0), .val (.int 1), .val (.int 0), .val (.int 1)] [(.int 1)]) (fun _ k => XS.iconst X363.here hx rfl (hb hby at_246) k) ?_
        refine own_S (mkF m 251 #[iv mk, iv xi, iv yi, .val (.long d0), .second, .val (.long d1), .second, .val (.long d2), .second, rv da, rv a, .val (.int 1), .val (.int 0), .val (.int 0), .val (.int 1), .val (.int 0), .val (.int 1)] [(.int 1)]) (fun _ k => XS.goto X363.here hx rfl (pc0 := 247) (pc' := 251) rfl (hb hby at_247) (by decide) (by decide) k) ?_
        exact own_retN X363 hx hlk (t := .boolean) hret (by simp) (hb hby at_251) (by rw [e363]; exact ⟨rfl, N363, trivial⟩) (by decide) (by decide)
      ·
        obtain ⟨cq365, kq365, q365a, q365b, q365c⟩ := isOf hZ rfl F299
        obtain ⟨_, _, ⟨T365, L365, k365, n365⟩, -, X365, ⟨Lc365, hQ365, l365, y365, z365⟩, st365⟩ := X298.virtualBack hx (y := own_y6) (z := own_y6) hown (mvT hZ (own_g hw (i := 36) rfl)) (mvT hZ (own_g hw (i := 37) rfl)) (notFace_of_selects (args := #[]) (mvT hZ (own_g hw (i := 39) rfl))) (mvT hZ (own_g hw (i := 39) rfl)) (mvT hZ (own_g hw (i := 38) rfl)) (by decide) (backOf (W := 0) (own_rmof1n l Z a0 hw [] (a) (da) (ha) (pa) (oa) (kd) (kh) (kp) (ko) ([(.long d0), (.long d1), (.long d2)]) ([(.int (1 : Int32)), g1, g2]) ([(.int (-1 : Int32)), (.int (0 : Int32)), (.int (-1 : Int32))]) ([(.long o0), (.long (of + (1 : Int64))), (.long o2)]) ((0 : Int32)) ((1 : Int32)) ((of + (1 : Int64))) (d0) (d1) ((of + (1 : Int64))) T298.heap n0 Z298 F299 F300 F301 F302 F303 F304 F305 F309 F310 F311 F312 G_a G_ha G_pa G_oa NE_a_da NE_a_ha NE_a_pa NE_a_oa NE_da_ha NE_da_pa NE_da_oa NE_ha_pa NE_ha_oa NE_pa_oa (by decide) (show (0 : Nat) < 3 from by decide) (show (0 : Nat) < 3 from by decide) rfl (show (1 : Nat) < 3 from by decide) rfl (by decide) (show (1 : Nat) < 3 from by decide) (by decide) rfl rfl rfl hB) hZ (own_g hw (i := 40) rfl) (own_g hw (i := 3) rfl) (by decide) (by decide)) q365a q365c (g := (mkF m 111 #[iv mk, iv xi, iv yi, .val (.long d0), .second, .val (.long d1), .second, .val (.long d2), .second, rv da, rv a, .val (.int 1), .val (.int 0), .unset, .unset, .unset, .unset] [(.int 0), (.ref a)])) rfl (by rw [hml]; rfl) (Steps.refl _) (argsL := [(.int 0)]) (rest := []) (lenOf own_pd__I_V rfl) rfl (by show 2 * 0 + _ ≤ _; exact Nat.le_of_eq rfl) (hb hby at_111) (fun _ _ => ⟨rfl, rfl, (by decide : 5 + 0 ≤ _), (by decide : 18 + 0 ≤ _)⟩)
        dsimp only [Pt.U, Pt.locs, Pt.cells, Pt.slots] at X365 l365 y365 z365 st365 hQ365
        subst l365 y365 z365
        obtain ⟨rfl, N365q, K365q, F366, F367, F368, F369, F370, F371, F372, F373, F374, F375⟩ := hQ365
        have N365 := Fr.app N298 N365q
        refine own_S (mkF m 114 #[iv mk, iv xi, iv yi, .val (.long d0), .second, .val (.long d1), .second, .val (.long d2), .second, rv da, rv a, .val (.int 1), .val (.int 0), .unset, .unset, .unset, .unset] []) (fun _ k => st365.trans k) ?_
        have F376 := F309.keep K365q (ninS (Ne.symm NE_a_da) (ninS NE_da_ha (ninS NE_da_pa (ninS NE_da_oa nin0))))
        have Z365 : n0 ≤ T365.heap.size := Nat.le_trans Z298 K365q.1
        have F377 : own_Ar Z T365.heap ha kh .int [(.int (1 : Int32)), (.int (0 : Int32)), g2] := F373
        have F378 : own_Ar Z T365.heap pa kp .int [(.int (1 : Int32)), (.int (0 : Int32)), (.int (-1 : Int32))] := F374
        have F379 : own_Ar Z T365.heap oa ko .long [(.long ((of + (1 : Int64)) + (1 : Int64))), (.long (of + (1 : Int64))), (.long o2)] := F375
        refine own_S (mkF m 116 #[iv mk, iv xi, iv yi, .val (.long d0), .second, .val (.long d1), .second, .val (.long d2), .second, rv da, rv a, .val (.int 1), .val (.int 0), .unset, .unset, .unset, .unset] [(.ref a)]) (fun _ k => XS.aload X365.here hx rfl (hb hby at_114) rfl rfl k) ?_
        obtain ⟨cq380, kq380, q380a, q380b, q380c⟩ := isOf hZ rfl F366
        obtain ⟨_, _, ⟨T380, L380, k380, n380⟩, -, X380, ⟨Lc380, hQ380, l380, y380, z380⟩, st380⟩ := X365.virtualBack hx (y := own_y2) (z := own_y2) hown (mvT hZ (own_g hw (i := 30) rfl)) (mvT hZ (own_g hw (i := 31) rfl)) (notFace_of_selects (args := #[]) (mvT hZ (own_g hw (i := 33) rfl))) (mvT hZ (own_g hw (i := 33) rfl)) (mvT hZ (own_g hw (i := 32) rfl)) (by decide) (backOf (W := 0) (own_rmne l Z a0 hw [] (a) ((2 : Int32)) T365.heap n0 Z365 F371 (by decide)) hZ (own_g hw (i := 34) rfl) (own_g hw (i := 3) rfl) (by decide) (by decide)) q380a q380c (g := (mkF m 116 #[iv mk, iv xi, iv yi, .val (.long d0), .second, .val (.long d1), .second, .val (.long d2), .second, rv da, rv a, .val (.int 1), .val (.int 0), .unset, .unset, .unset, .unset] [(.ref a)])) rfl (by rw [hml]; rfl) (Steps.refl _) (argsL := []) (rest := []) (lenOf own_pd___Z rfl) rfl (by show 2 * 0 + _ ≤ _; exact Nat.le_of_eq rfl) (hb hby at_116) (fun _ _ => ⟨rfl, rfl, (by decide : 5 + 0 ≤ _), (by decide : 18 + 0 ≤ _)⟩)
        dsimp only [Pt.U, Pt.locs, Pt.cells, Pt.slots] at X380 l380 y380 z380 st380 hQ380
        subst l380 y380 z380
        obtain ⟨rfl, N380q, e380⟩ := hQ380
        have N380 := Fr.app N365 N380q
        refine own_S (mkF m 119 #[iv mk, iv xi, iv yi, .val (.long d0), .second, .val (.long d1), .second, .val (.long d2), .second, rv da, rv a, .val (.int 1), .val (.int 0), .unset, .unset, .unset, .unset] [(.int 0)]) (fun _ k => st380.trans k) ?_
        have hc381 : (0 : Int32) = (0 : Int32) := by decide
        refine own_S (mkF m 124 #[iv mk, iv xi, iv yi, .val (.long d0), .second, .val (.long d1), .second, .val (.long d2), .second, rv da, rv a, .val (.int 1), .val (.int 0), .unset, .unset, .unset, .unset] []) (fun _ k => XS.ifYes X380.here hx rfl (pc0 := 119) (pc' := 124) rfl (hb hby at_119) rfl ((if0 _ _).trans (teq hc381).1) (by decide) (by decide) k) ?_
        refine own_S (mkF m 126 #[iv mk, iv xi, iv yi, .val (.long d0), .second, .val (.long d1), .second, .val (.long d2), .second, rv da, rv a, .val (.int 1), .val (.int 0), .unset, .unset, .unset, .unset] [(.int 1)]) (fun _ k => XS.iload X380.here hx rfl (hb hby at_124) rfl k) ?_
        refine own_S (mkF m 128 #[iv mk, iv xi, iv yi, .val (.long d0), .second, .val (.long d1), .second, .val (.long d2), .second, rv da, rv a, .val (.int 1), .val (.int 0), .unset, .unset, .unset, .unset] [(.int 0), (.int 1)]) (fun _ k => XS.iload X380.here hx rfl (hb hby at_126) rfl k) ?_
        have hc382 : ¬ ((1 : Int32) = (0 : Int32)) := by decide
        refine own_S (mkF m 159 #[iv mk, iv xi, iv yi, .val (.long d0), .second, .val (.long d1), .second, .val (.long d2), .second, rv da, rv a, .val (.int 1), .val (.int 0), .unset, .unset, .unset, .unset] []) (fun _ k => XS.icmpYes X380.here hx rfl (pc0 := 128) (pc' := 159) rfl (hb hby at_128) rfl (feq hc382).2 (by decide) (by decide) k) ?_
        refine own_S (mkF m 161 #[iv mk, iv xi, iv yi, .val (.long d0), .second, .val (.long d1), .second, .val (.long d2), .second, rv da, rv a, .val (.int 1), .val (.int 0), .unset, .unset, .unset, .unset] [(.ref da)]) (fun _ k => XS.aload X380.here hx rfl (hb hby at_159) rfl rfl k) ?_
        refine own_S (mkF m 163 #[iv mk, iv xi, iv yi, .val (.long d0), .second, .val (.long d1), .second, .val (.long d2), .second, rv da, rv a, .val (.int 1), .val (.int 0), .unset, .unset, .unset, .unset] [(.int 1), (.ref da)]) (fun _ k => XS.iload X380.here hx rfl (hb hby at_161) rfl k) ?_
        refine own_S (mkF m 164 #[iv mk, iv xi, iv yi, .val (.long d0), .second, .val (.long d1), .second, .val (.long d2), .second, rv da, rv a, .val (.int 1), .val (.int 0), .unset, .unset, .unset, .unset] [(.long d1)]) (fun _ k => own_ldJ X380 hx hZ e380 F376 (by decide) rfl (g := (mkF m 163 #[iv mk, iv xi, iv yi, .val (.long d0), .second, .val (.long d1), .second, .val (.long d2), .second, rv da, rv a, .val (.int 1), .val (.int 0), .unset, .unset, .unset, .unset] [(.int 1), (.ref da)])) rfl rfl (hb hby at_163) _ k) ?_
        refine own_S (mkF m 166 #[iv mk, iv xi, iv yi, .val (.long d0), .second, .val (.long d1), .second, .val (.long d2), .second, rv da, rv a, .val (.int 1), .val (.int 0), .unset, .unset, .unset, .unset] [(.ref da), (.long d1)]) (fun _ k => XS.aload X380.here hx rfl (hb hby at_164) rfl rfl k) ?_
        refine own_S (mkF m 168 #[iv mk, iv xi, iv yi, .val (.long d0), .second, .val (.long d1), .second, .val (.long d2), .second, rv da, rv a, .val (.int 1), .val (.int 0), .unset, .unset, .unset, .unset] [(.int 0), (.ref da), (.long d1)]) (fun _ k => XS.iload X380.here hx rfl (hb hby at_166) rfl k) ?_
        refine own_S (mkF m 169 #[iv mk, iv xi, iv yi, .val (.long d0), .second, .val (.long d1), .second, .val (.long d2), .second, rv da, rv a, .val (.int 1), .val (.int 0), .unset, .unset, .unset, .unset] [(.long d0), (.long d1)]) (fun _ k => own_ldJ X380 hx hZ e380 F376 (by decide) rfl (g := (mkF m 168 #[iv mk, iv xi, iv yi, .val (.long d0), .second, .val (.long d1), .second, .val (.long d2), .second, rv da, rv a, .val (.int 1), .val (.int 0), .unset, .unset, .unset, .unset] [(.int 0), (.ref da), (.long d1)])) rfl rfl (hb hby at_168) _ k) ?_
        refine own_S (mkF m 170 #[iv mk, iv xi, iv yi, .val (.long d0), .second, .val (.long d1), .second, .val (.long d2), .second, rv da, rv a, .val (.int 1), .val (.int 0), .unset, .unset, .unset, .unset] [(.int (lcmpW d1 d0))]) (fun _ k => XS.lcmp X380.here hx rfl (hb hby at_169) rfl k) ?_
        have hc383 : d1 < d0 := (own_lt hof hB)
        refine own_S (mkF m 173 #[iv mk, iv xi, iv yi, .val (.long d0), .second, .val (.long d1), .second, .val (.long d2), .second, rv da, rv a, .val (.int 1), .val (.int 0), .unset, .unset, .unset, .unset] []) (fun _ k => XS.ifNo X380.here hx rfl (hb hby at_170) rfl ((if0 _ _).trans (tlt ((lw_lt d1 d0).mpr hc383)).2.1) k) ?_
        refine own_S (mkF m 175 #[iv mk, iv xi, iv yi, .val (.long d0), .second, .val (.long d1), .second, .val (.long d2), .second, rv da, rv a, .val (.int 1), .val (.int 0), .unset, .unset, .unset, .unset] [(.int 1)]) (fun _ k => XS.iload X380.here hx rfl (hb hby at_173) rfl k) ?_
        refine own_S (mkF m 180 #[iv mk, iv xi, iv yi, .val (.long d0), .second, .val (.long d1), .second, .val (.long d2), .second, rv da, rv a, .val (.int 1), .val (.int 0), .unset, .unset, .unset, .unset] [(.int 1)]) (fun _ k => XS.goto X380.here hx rfl (pc0 := 175) (pc' := 180) rfl (hb hby at_175) (by decide) (by decide) k) ?_
        refine own_S (mkF m 182 #[iv mk, iv xi, iv yi, .val (.long d0), .second, .val (.long d1), .second, .val (.long d2), .second, rv da, rv a, .val (.int 1), .val (.int 0), .val (.int 1), .unset, .unset, .unset] []) (fun _ k => XS.istore X380.here hx rfl (hb hby at_180) rfl (l' := #[iv mk, iv xi, iv yi, .val (.long d0), .second, .val (.long d1), .second, .val (.long d2), .second, rv da, rv a, .val (.int 1), .val (.int 0), .val (.int 1), .unset, .unset, .unset]) rfl k) ?_
        refine own_S (mkF m 184 #[iv mk, iv xi, iv yi, .val (.long d0), .second, .val (.long d1), .second, .val (.long d2), .second, rv da, rv a, .val (.int 1), .val (.int 0), .val (.int 1), .unset, .unset, .unset] [(.int 1)]) (fun _ k => XS.iload X380.here hx rfl (hb hby at_182) rfl k) ?_
        refine own_S (mkF m 186 #[iv mk, iv xi, iv yi, .val (.long d0), .second, .val (.long d1), .second, .val (.long d2), .second, rv da, rv a, .val (.int 1), .val (.int 0), .val (.int 1), .unset, .unset, .unset] [(.int 1), (.int 1)]) (fun _ k => XS.iload X380.here hx rfl (hb hby at_184) rfl k) ?_
        have hc384 : (1 : Int32) = (1 : Int32) := by decide
        refine own_S (mkF m 189 #[iv mk, iv xi, iv yi, .val (.long d0), .second, .val (.long d1), .second, .val (.long d2), .second, rv da, rv a, .val (.int 1), .val (.int 0), .val (.int 1), .unset, .unset, .unset] []) (fun _ k => XS.icmpNo X380.here hx rfl (hb hby at_186) rfl (teq hc384).2 k) ?_
        refine own_S (mkF m 191 #[iv mk, iv xi, iv yi, .val (.long d0), .second, .val (.long d1), .second, .val (.long d2), .second, rv da, rv a, .val (.int 1), .val (.int 0), .val (.int 1), .unset, .unset, .unset] [(.int 0)]) (fun _ k => XS.iload X380.here hx rfl (hb hby at_189) rfl k) ?_
        refine own_S (mkF m 196 #[iv mk, iv xi, iv yi, .val (.long d0), .second, .val (.long d1), .second, .val (.long d2), .second, rv da, rv a, .val (.int 1), .val (.int 0), .val (.int 1), .unset, .unset, .unset] [(.int 0)]) (fun _ k => XS.goto X380.here hx rfl (pc0 := 191) (pc' := 196) rfl (hb hby at_191) (by decide) (by decide) k) ?_
        refine own_S (mkF m 198 #[iv mk, iv xi, iv yi, .val (.long d0), .second, .val (.long d1), .second, .val (.long d2), .second, rv da, rv a, .val (.int 1), .val (.int 0), .val (.int 1), .val (.int 0), .unset, .unset] []) (fun _ k => XS.istore X380.here hx rfl (hb hby at_196) rfl (l' := #[iv mk, iv xi, iv yi, .val (.long d0), .second, .val (.long d1), .second, .val (.long d2), .second, rv da, rv a, .val (.int 1), .val (.int 0), .val (.int 1), .val (.int 0), .unset, .unset]) rfl k) ?_
        refine own_S (mkF m 200 #[iv mk, iv xi, iv yi, .val (.long d0), .second, .val (.long d1), .second, .val (.long d2), .second, rv da, rv a, .val (.int 1), .val (.int 0), .val (.int 1), .val (.int 0), .unset, .unset] [(.ref a)]) (fun _ k => XS.aload X380.here hx rfl (hb hby at_198) rfl rfl k) ?_
        obtain ⟨cq385, kq385, q385a, q385b, q385c⟩ := isOf hZ e380 F366
        obtain ⟨_, _, ⟨T385, L385, k385, n385⟩, -, X385, ⟨Lc385, hQ385, l385, y385, z385⟩, st385⟩ := X380.virtualBack hx (y := own_y9) (z := own_y9) hown (mvT hZ (own_g hw (i := 55) rfl)) (mvT hZ (own_g hw (i := 56) rfl)) (notFace_of_selects (args := #[]) (mvT hZ (own_g hw (i := 58) rfl))) (mvT hZ (own_g hw (i := 58) rfl)) (mvT hZ (own_g hw (i := 57) rfl)) (by decide) (backOf (W := 0) (own_rmpo2 l Z a0 hw [] (a) (da) (ha) (pa) (oa) (kd) (kh) (kp) (ko) ([(.long d0), (.long d1), (.long d2)]) ([(.int (1 : Int32)), (.int (0 : Int32)), g2]) ([(.int (1 : Int32)), (.int (0 : Int32)), (.int (-1 : Int32))]) ([(.long ((of + (1 : Int64)) + (1 : Int64))), (.long (of + (1 : Int64))), (.long o2)]) (((of + (1 : Int64)) + (1 : Int64))) ((1 : Int32)) ((0 : Int32)) T365.heap n0 Z365 F366 F367 F368 F369 F370 F371 F372 F376 F377 F378 F379 G_a G_ha G_pa NE_a_da NE_a_ha NE_a_pa NE_a_oa NE_da_ha NE_da_pa NE_da_oa NE_ha_pa NE_ha_oa NE_pa_oa rfl (by decide) (show (1 : Nat) < 3 from by decide) rfl (by decide) (show (0 : Nat) < 3 from by decide)) hZ (own_g hw (i := 59) rfl) (own_g hw (i := 3) rfl) (by decide) (by decide)) q385a q385c (g := (mkF m 200 #[iv mk, iv xi, iv yi, .val (.long d0), .second, .val (.long d1), .second, .val (.long d2), .second, rv da, rv a, .val (.int 1), .val (.int 0), .val (.int 1), .val (.int 0), .unset, .unset] [(.ref a)])) rfl (by rw [hml]; rfl) (Steps.refl _) (argsL := []) (rest := []) (lenOf own_pd___I rfl) rfl (by show 2 * 0 + _ ≤ _; exact Nat.le_of_eq rfl) (hb hby at_200) (fun _ _ => ⟨rfl, e380, (by decide : 5 + 0 ≤ _), (by decide : 18 + 0 ≤ _)⟩)
        dsimp only [Pt.U, Pt.locs, Pt.cells, Pt.slots] at X385 l385 y385 z385 st385 hQ385
        subst l385 y385 z385
        obtain ⟨rfl, N385q, K385q, F386, F387, F388, F389, F390, F391, F392, F393, F394⟩ := hQ385
        have N385 := Fr.app N380 N385q
        refine own_S (mkF m 203 #[iv mk, iv xi, iv yi, .val (.long d0), .second, .val (.long d1), .second, .val (.long d2), .second, rv da, rv a, .val (.int 1), .val (.int 0), .val (.int 1), .val (.int 0), .unset, .unset] [(.int 1)]) (fun _ k => st385.trans k) ?_
        have F395 := F376.keep K385q (ninS (Ne.symm NE_a_da) (ninS NE_da_ha (ninS NE_da_pa nin0)))
        have F396 := F379.keep K385q (ninS (Ne.symm NE_a_oa) (ninS (Ne.symm NE_ha_oa) (ninS (Ne.symm NE_pa_oa) nin0)))
        have Z385 : n0 ≤ T385.heap.size := Nat.le_trans Z365 K385q.1
        have F397 : own_Ar Z T385.heap ha kh .int [(.int (0 : Int32)), (.int (0 : Int32)), g2] := F393
        have F398 : own_Ar Z T385.heap pa kp .int [(.int (0 : Int32)), (.int (-1 : Int32)), (.int (-1 : Int32))] := F394
        refine own_S (mkF m 205 #[iv mk, iv xi, iv yi, .val (.long d0), .second, .val (.long d1), .second, .val (.long d2), .second, rv da, rv a, .val (.int 1), .val (.int 0), .val (.int 1), .val (.int 0), .val (.int 1), .unset] []) (fun _ k => XS.istore X385.here hx rfl (hb hby at_203) rfl (l' := #[iv mk, iv xi, iv yi, .val (.long d0), .second, .val (.long d1), .second, .val (.long d2), .second, rv da, rv a, .val (.int 1), .val (.int 0), .val (.int 1), .val (.int 0), .val (.int 1), .unset]) rfl k) ?_
        refine own_S (mkF m 207 #[iv mk, iv xi, iv yi, .val (.long d0), .second, .val (.long d1), .second, .val (.long d2), .second, rv da, rv a, .val (.int 1), .val (.int 0), .val (.int 1), .val (.int 0), .val (.int 1), .unset] [(.int 1)]) (fun _ k => XS.iload X385.here hx rfl (hb hby at_205) rfl k) ?_
        refine own_S (mkF m 209 #[iv mk, iv xi, iv yi, .val (.long d0), .second, .val (.long d1), .second, .val (.long d2), .second, rv da, rv a, .val (.int 1), .val (.int 0), .val (.int 1), .val (.int 0), .val (.int 1), .unset] [(.int 1), (.int 1)]) (fun _ k => XS.iload X385.here hx rfl (hb hby at_207) rfl k) ?_
        have hc399 : (1 : Int32) = (1 : Int32) := by decide
        refine own_S (mkF m 214 #[iv mk, iv xi, iv yi, .val (.long d0), .second, .val (.long d1), .second, .val (.long d2), .second, rv da, rv a, .val (.int 1), .val (.int 0), .val (.int 1), .val (.int 0), .val (.int 1), .unset] []) (fun _ k => XS.icmpYes X385.here hx rfl (pc0 := 209) (pc' := 214) rfl (hb hby at_209) rfl (teq hc399).1 (by decide) (by decide) k) ?_
        refine own_S (mkF m 216 #[iv mk, iv xi, iv yi, .val (.long d0), .second, .val (.long d1), .second, .val (.long d2), .second, rv da, rv a, .val (.int 1), .val (.int 0), .val (.int 1), .val (.int 0), .val (.int 1), .unset] [(.ref a)]) (fun _ k => XS.aload X385.here hx rfl (hb hby at_214) rfl rfl k) ?_
        obtain ⟨cq400, kq400, q400a, q400b, q400c⟩ := isOf hZ rfl F386
        obtain ⟨_, _, ⟨T400, L400, k400, n400⟩, -, X400, ⟨Lc400, hQ400, l400, y400, z400⟩, st400⟩ := X385.virtualBack hx (y := own_y2) (z := own_y2) hown (mvT hZ (own_g hw (i := 30) rfl)) (mvT hZ (own_g hw (i := 31) rfl)) (notFace_of_selects (args := #[]) (mvT hZ (own_g hw (i := 33) rfl))) (mvT hZ (own_g hw (i := 33) rfl)) (mvT hZ (own_g hw (i := 32) rfl)) (by decide) (backOf (W := 0) (own_rmne l Z a0 hw [] (a) ((1 : Int32)) T385.heap n0 Z385 F391 (by decide)) hZ (own_g hw (i := 34) rfl) (own_g hw (i := 3) rfl) (by decide) (by decide)) q400a q400c (g := (mkF m 216 #[iv mk, iv xi, iv yi, .val (.long d0), .second, .val (.long d1), .second, .val (.long d2), .second, rv da, rv a, .val (.int 1), .val (.int 0), .val (.int 1), .val (.int 0), .val (.int 1), .unset] [(.ref a)])) rfl (by rw [hml]; rfl) (Steps.refl _) (argsL := []) (rest := []) (lenOf own_pd___Z rfl) rfl (by show 2 * 0 + _ ≤ _; exact Nat.le_of_eq rfl) (hb hby at_216) (fun _ _ => ⟨rfl, rfl, (by decide : 5 + 0 ≤ _), (by decide : 18 + 0 ≤ _)⟩)
        dsimp only [Pt.U, Pt.locs, Pt.cells, Pt.slots] at X400 l400 y400 z400 st400 hQ400
        subst l400 y400 z400
        obtain ⟨rfl, N400q, e400⟩ := hQ400
        have N400 := Fr.app N385 N400q
        refine own_S (mkF m 219 #[iv mk, iv xi, iv yi, .val (.long d0), .second, .val (.long d1), .second, .val (.long d2), .second, rv da, rv a, .val (.int 1), .val (.int 0), .val (.int 1), .val (.int 0), .val (.int 1), .unset] [(.int 0)]) (fun _ k => st400.trans k) ?_
        have hc401 : (0 : Int32) = (0 : Int32) := by decide
        refine own_S (mkF m 224 #[iv mk, iv xi, iv yi, .val (.long d0), .second, .val (.long d1), .second, .val (.long d2), .second, rv da, rv a, .val (.int 1), .val (.int 0), .val (.int 1), .val (.int 0), .val (.int 1), .unset] []) (fun _ k => XS.ifYes X400.here hx rfl (pc0 := 219) (pc' := 224) rfl (hb hby at_219) rfl ((if0 _ _).trans (teq hc401).1) (by decide) (by decide) k) ?_
        refine own_S (mkF m 226 #[iv mk, iv xi, iv yi, .val (.long d0), .second, .val (.long d1), .second, .val (.long d2), .second, rv da, rv a, .val (.int 1), .val (.int 0), .val (.int 1), .val (.int 0), .val (.int 1), .unset] [(.ref a)]) (fun _ k => XS.aload X400.here hx rfl (hb hby at_224) rfl rfl k) ?_
        obtain ⟨cq402, kq402, q402a, q402b, q402c⟩ := isOf hZ e400 F386
        obtain ⟨_, _, ⟨T402, L402, k402, n402⟩, -, X402, ⟨Lc402, hQ402, l402, y402, z402⟩, st402⟩ := X400.virtualBack hx (y := own_y9) (z := own_y9) hown (mvT hZ (own_g hw (i := 55) rfl)) (mvT hZ (own_g hw (i := 56) rfl)) (notFace_of_selects (args := #[]) (mvT hZ (own_g hw (i := 58) rfl))) (mvT hZ (own_g hw (i := 58) rfl)) (mvT hZ (own_g hw (i := 57) rfl)) (by decide) (backOf (W := 0) (own_rmpo1 l Z a0 hw [] (a) (da) (ha) (pa) (oa) (kd) (kh) (kp) (ko) ([(.long d0), (.long d1), (.long d2)]) ([(.int (0 : Int32)), (.int (0 : Int32)), g2]) ([(.int (0 : Int32)), (.int (-1 : Int32)), (.int (-1 : Int32))]) ([(.long ((of + (1 : Int64)) + (1 : Int64))), (.long (of + (1 : Int64))), (.long o2)]) (((of + (1 : Int64)) + (1 : Int64))) ((0 : Int32)) T385.heap n0 Z385 F386 F387 F388 F389 F390 F391 F392 F395 F397 F398 F396 G_a G_ha G_pa NE_a_da NE_a_ha NE_a_pa NE_a_oa NE_da_ha NE_da_pa NE_da_oa NE_ha_pa NE_ha_oa NE_pa_oa rfl (by decide) (show (0 : Nat) < 3 from by decide)) hZ (own_g hw (i := 59) rfl) (own_g hw (i := 3) rfl) (by decide) (by decide)) q402a q402c (g := (mkF m 226 #[iv mk, iv xi, iv yi, .val (.long d0), .second, .val (.long d1), .second, .val (.long d2), .second, rv da, rv a, .val (.int 1), .val (.int 0), .val (.int 1), .val (.int 0), .val (.int 1), .unset] [(.ref a)])) rfl (by rw [hml]; rfl) (Steps.refl _) (argsL := []) (rest := []) (lenOf own_pd___I rfl) rfl (by show 2 * 0 + _ ≤ _; exact Nat.le_of_eq rfl) (hb hby at_226) (fun _ _ => ⟨rfl, e400, (by decide : 5 + 0 ≤ _), (by decide : 18 + 0 ≤ _)⟩)
        dsimp only [Pt.U, Pt.locs, Pt.cells, Pt.slots] at X402 l402 y402 z402 st402 hQ402
        subst l402 y402 z402
        obtain ⟨rfl, N402q, K402q, F403, F404, F405, F406, F407, F408, F409, F410, F411⟩ := hQ402
        have N402 := Fr.app N400 N402q
        refine own_S (mkF m 229 #[iv mk, iv xi, iv yi, .val (.long d0), .second, .val (.long d1), .second, .val (.long d2), .second, rv da, rv a, .val (.int 1), .val (.int 0), .val (.int 1), .val (.int 0), .val (.int 1), .unset] [(.int 0)]) (fun _ k => st402.trans k) ?_
        have F412 := F395.keep K402q (ninS (Ne.symm NE_a_da) (ninS NE_da_ha (ninS NE_da_pa nin0)))
        have F413 := F396.keep K402q (ninS (Ne.symm NE_a_oa) (ninS (Ne.symm NE_ha_oa) (ninS (Ne.symm NE_pa_oa) nin0)))
        have Z402 : n0 ≤ T402.heap.size := Nat.le_trans Z385 K402q.1
        refine own_S (mkF m 231 #[iv mk, iv xi, iv yi, .val (.long d0), .second, .val (.long d1), .second, .val (.long d2), .second, rv da, rv a, .val (.int 1), .val (.int 0), .val (.int 1), .val (.int 0), .val (.int 1), .val (.int 0)] []) (fun _ k => XS.istore X402.here hx rfl (hb hby at_229) rfl (l' := #[iv mk, iv xi, iv yi, .val (.long d0), .second, .val (.long d1), .second, .val (.long d2), .second, rv da, rv a, .val (.int 1), .val (.int 0), .val (.int 1), .val (.int 0), .val (.int 1), .val (.int 0)]) rfl k) ?_
        refine own_S (mkF m 233 #[iv mk, iv xi, iv yi, .val (.long d0), .second, .val (.long d1), .second, .val (.long d2), .second, rv da, rv a, .val (.int 1), .val (.int 0), .val (.int 1), .val (.int 0), .val (.int 1), .val (.int 0)] [(.int 0)]) (fun _ k => XS.iload X402.here hx rfl (hb hby at_231) rfl k) ?_
        refine own_S (mkF m 235 #[iv mk, iv xi, iv yi, .val (.long d0), .second, .val (.long d1), .second, .val (.long d2), .second, rv da, rv a, .val (.int 1), .val (.int 0), .val (.int 1), .val (.int 0), .val (.int 1), .val (.int 0)] [(.int 0), (.int 0)]) (fun _ k => XS.iload X402.here hx rfl (hb hby at_233) rfl k) ?_
        have hc414 : (0 : Int32) = (0 : Int32) := by decide
        refine own_S (mkF m 238 #[iv mk, iv xi, iv yi, .val (.long d0), .second, .val (.long d1), .second, .val (.long d2), .second, rv da, rv a, .val (.int 1), .val (.int 0), .val (.int 1), .val (.int 0), .val (.int 1), .val (.int 0)] []) (fun _ k => XS.icmpNo X402.here hx rfl (hb hby at_235) rfl (teq hc414).2 k) ?_
        refine own_S (mkF m 240 #[iv mk, iv xi, iv yi, .val (.long d0), .second, .val (.long d1), .second, .val (.long d2), .second, rv da, rv a, .val (.int 1), .val (.int 0), .val (.int 1), .val (.int 0), .val (.int 1), .val (.int 0)] [(.ref a)]) (fun _ k => XS.aload X402.here hx rfl (hb hby at_238) rfl rfl k) ?_
        obtain ⟨cq415, kq415, q415a, q415b, q415c⟩ := isOf hZ rfl F403
        obtain ⟨_, _, ⟨T415, L415, k415, n415⟩, -, X415, ⟨Lc415, hQ415, l415, y415, z415⟩, st415⟩ := X402.virtualBack hx (y := own_y2) (z := own_y2) hown (mvT hZ (own_g hw (i := 30) rfl)) (mvT hZ (own_g hw (i := 31) rfl)) (notFace_of_selects (args := #[]) (mvT hZ (own_g hw (i := 33) rfl))) (mvT hZ (own_g hw (i := 33) rfl)) (mvT hZ (own_g hw (i := 32) rfl)) (by decide) (backOf (W := 0) (own_rmem l Z a0 hw [] (a) T402.heap n0 Z402 F408) hZ (own_g hw (i := 34) rfl) (own_g hw (i := 3) rfl) (by decide) (by decide)) q415a q415c (g := (mkF m 240 #[iv mk, iv xi, iv yi, .val (.long d0), .second, .val (.long d1), .second, .val (.long d2), .second, rv da, rv a, .val (.int 1), .val (.int 0), .val (.int 1), .val (.int 0), .val (.int 1), .val (.int 0)] [(.ref a)])) rfl (by rw [hml]; rfl) (Steps.refl _) (argsL := []) (rest := []) (lenOf own_pd___Z rfl) rfl (by show 2 * 0 + _ ≤ _; exact Nat.le_of_eq rfl) (hb hby at_240) (fun _ _ => ⟨rfl, rfl, (by decide : 5 + 0 ≤ _), (by decide : 18 + 0 ≤ _)⟩)
        dsimp only [Pt.U, Pt.locs, Pt.cells, Pt.slots] at X415 l415 y415 z415 st415 hQ415
        subst l415 y415 z415
        obtain ⟨rfl, N415q, e415⟩ := hQ415
        have N415 := Fr.app N402 N415q
        refine own_S (mkF m 243 #[iv mk, iv xi, iv yi, .val (.long d0), .second, .val (.long d1), .second, .val (.long d2), .second, rv da, rv a, .val (.int 1), .val (.int 0), .val (.int 1), .val (.int 0), .val (.int 1), .val (.int 0)] [(.int 1)]) (fun _ k => st415.trans k) ?_
        have hc416 : ¬ ((1 : Int32) = (0 : Int32)) := by decide
        refine own_S (mkF m 246 #[iv mk, iv xi, iv yi, .val (.long d0), .second, .val (.long d1), .second, .val (.long d2), .second, rv da, rv a, .val (.int 1), .val (.int 0), .val (.int 1), .val (.int 0), .val (.int 1), .val (.int 0)] []) (fun _ k => XS.ifNo X415.here hx rfl (hb hby at_243) rfl ((if0 _ _).trans (feq hc416).1) k) ?_
        refine own_S (mkF m 247 #[iv mk, iv xi, iv yi, .val (.long d0), .second, .val (.long d1), .second, .val (.long d2), .second, rv da, rv a, .val (.int 1), .val (.int 0), .val (.int 1), .val (.int 0), .val (.int 1), .val (.int 0)] [(.int 1)]) (fun _ k => XS.iconst X415.here hx rfl (hb hby at_246) k) ?_
        refine own_S (mkF m 251 #[iv mk, iv xi, iv yi, .val (.long d0), .second, .val (.long d1), .second, .val (.long d2), .second, rv da, rv a, .val (.int 1), .val (.int 0), .val (.int 1), .val (.int 0), .val (.int 1), .val (.int 0)] [(.int 1)]) (fun _ k => XS.goto X415.here hx rfl (pc0 := 247) (pc' := 251) rfl (hb hby at_247) (by decide) (by decide) k) ?_
        exact own_retN X415 hx hlk (t := .boolean) hret (by simp) (hb hby at_251) (by rw [e415]; exact ⟨rfl, N415, trivial⟩) (by decide) (by decide)
    · -- bv = 1
      subst q296_1
      obtain ⟨cq417, kq417, q417a, q417b, q417c⟩ := isOf hZ e1 P0
      obtain ⟨_, _, ⟨T417, L417, k417, n417⟩, -, X417, ⟨Lc417, hQ417, l417, y417, z417⟩, st417⟩ := X1.virtualBack hx (y := own_y6) (z := own_y6) hown (mvT hZ (own_g hw (i := 36) rfl)) (mvT hZ (own_g hw (i := 37) rfl)) (notFace_of_selects (args := #[]) (mvT hZ (own_g hw (i := 39) rfl))) (mvT hZ (own_g hw (i := 39) rfl)) (mvT hZ (own_g hw (i := 38) rfl)) (by decide) (backOf (W := 0) (own_rmofA l Z a0 hw [] (a) (da) (ha) (pa) (oa) (kd) (kh) (kp) (ko) ([(.long d0), (.long d1), (.long d2)]) ([g0, g1, g2]) ([(.int (-1 : Int32)), (.int (-1 : Int32)), (.int (-1 : Int32))]) ([(.long o0), (.long o1), (.long o2)]) ((1 : Int32)) (of) hh n0 Z0 P0 P1 P2 P3 P4 P5 P6 P7 P8 P9 P10 G_a G_ha G_pa G_oa NE_a_da NE_a_ha NE_a_pa NE_a_oa NE_da_ha NE_da_pa NE_da_oa NE_ha_pa NE_ha_oa NE_pa_oa (by decide) (show (1 : Nat) < 3 from by decide) (show (1 : Nat) < 3 from by decide) rfl (show (0 : Nat) < 3 from by decide)) hZ (own_g hw (i := 40) rfl) (own_g hw (i := 3) rfl) (by decide) (by decide)) q417a q417c (g := (mkF m 104 #[iv mk, iv xi, iv yi, .val (.long d0), .second, .val (.long d1), .second, .val (.long d2), .second, rv da, rv a, .val (.int 1), .val (.int 1), .unset, .unset, .unset, .unset] [(.int 1), (.ref a)])) rfl (by rw [hml]; rfl) (Steps.refl _) (argsL := [(.int 1)]) (rest := []) (lenOf own_pd__I_V rfl) rfl (by show 2 * 0 + _ ≤ _; exact Nat.le_of_eq rfl) (hb hby at_104) (fun _ _ => ⟨rfl, e1, (by decide : 5 + 0 ≤ _), (by decide : 18 + 0 ≤ _)⟩)
      dsimp only [Pt.U, Pt.locs, Pt.cells, Pt.slots] at X417 l417 y417 z417 st417 hQ417
      subst l417 y417 z417
      obtain ⟨rfl, N417q, K417q, F418, F419, F420, F421, F422, F423, F424, F425, F426, F427⟩ := hQ417
      have N417 := Fr.app N1 N417q
      refine own_S (mkF m 107 #[iv mk, iv xi, iv yi, .val (.long d0), .second, .val (.long d1), .second, .val (.long d2), .second, rv da, rv a, .val (.int 1), .val (.int 1), .unset, .unset, .unset, .unset] []) (fun _ k => st417.trans k) ?_
      have F428 := P7.keep K417q (ninS (Ne.symm NE_a_da) (ninS NE_da_ha (ninS NE_da_pa (ninS NE_da_oa nin0))))
      have Z417 : n0 ≤ T417.heap.size := Nat.le_trans Z0 K417q.1
      have F429 : own_Ar Z T417.heap ha kh .int [(.int (1 : Int32)), g1, g2] := F425
      have F430 : own_Ar Z T417.heap pa kp .int [(.int (-1 : Int32)), (.int (0 : Int32)), (.int (-1 : Int32))] := F426
      have F431 : own_Ar Z T417.heap oa ko .long [(.long o0), (.long (of + (1 : Int64))), (.long o2)] := F427
      refine own_S (mkF m 109 #[iv mk, iv xi, iv yi, .val (.long d0), .second, .val (.long d1), .second, .val (.long d2), .second, rv da, rv a, .val (.int 1), .val (.int 1), .unset, .unset, .unset, .unset] [(.ref a)]) (fun _ k => XS.aload X417.here hx rfl (hb hby at_107) rfl rfl k) ?_
      refine own_S (mkF m 111 #[iv mk, iv xi, iv yi, .val (.long d0), .second, .val (.long d1), .second, .val (.long d2), .second, rv da, rv a, .val (.int 1), .val (.int 1), .unset, .unset, .unset, .unset] [(.int 1), (.ref a)]) (fun _ k => XS.iload X417.here hx rfl (hb hby at_109) rfl k) ?_
      obtain ⟨cq432, kq432, q432a, q432b, q432c⟩ := isOf hZ rfl F418
      obtain ⟨_, _, ⟨T432, L432, k432, n432⟩, -, X432, ⟨Lc432, hQ432, l432, y432, z432⟩, st432⟩ := X417.virtualBack hx (y := own_y6) (z := own_y6) hown (mvT hZ (own_g hw (i := 36) rfl)) (mvT hZ (own_g hw (i := 37) rfl)) (notFace_of_selects (args := #[]) (mvT hZ (own_g hw (i := 39) rfl))) (mvT hZ (own_g hw (i := 39) rfl)) (mvT hZ (own_g hw (i := 38) rfl)) (by decide) (backOf (W := 0) (own_rmofC l Z a0 hw [] (a) (da) (ha) (pa) (oa) (kd) (kh) (kp) (ko) ([(.long d0), (.long d1), (.long d2)]) ([(.int (1 : Int32)), g1, g2]) ([(.int (-1 : Int32)), (.int (0 : Int32)), (.int (-1 : Int32))]) ([(.long o0), (.long (of + (1 : Int64))), (.long o2)]) ((1 : Int32)) ((of + (1 : Int64))) ((1 : Int32)) T417.heap n0 Z417 F418 F419 F420 F421 F422 F423 F424 F428 F429 F430 F431 G_a G_ha G_pa G_oa NE_a_da NE_a_ha NE_a_pa NE_a_oa NE_da_ha NE_da_pa NE_da_oa NE_ha_pa NE_ha_oa NE_pa_oa (by decide) (show (1 : Nat) < 3 from by decide) (show (1 : Nat) < 3 from by decide) rfl rfl) hZ (own_g hw (i := 40) rfl) (own_g hw (i := 3) rfl) (by decide) (by decide)) q432a q432c (g := (mkF m 111 #[iv mk, iv xi, iv yi, .val (.long d0), .second, .val (.long d1), .second, .val (.long d2), .second, rv da, rv a, .val (.int 1), .val (.int 1), .unset, .unset, .unset, .unset] [(.int 1), (.ref a)])) rfl (by rw [hml]; rfl) (Steps.refl _) (argsL := [(.int 1)]) (rest := []) (lenOf own_pd__I_V rfl) rfl (by show 2 * 0 + _ ≤ _; exact Nat.le_of_eq rfl) (hb hby at_111) (fun _ _ => ⟨rfl, rfl, (by decide : 5 + 0 ≤ _), (by decide : 18 + 0 ≤ _)⟩)
      dsimp only [Pt.U, Pt.locs, Pt.cells, Pt.slots] at X432 l432 y432 z432 st432 hQ432
      subst l432 y432 z432
      obtain ⟨rfl, N432q, K432q, F433, F434, F435, F436, F437, F438, F439, F440, F441, F442⟩ := hQ432
      have N432 := Fr.app N417 N432q
      refine own_S (mkF m 114 #[iv mk, iv xi, iv yi, .val (.long d0), .second, .val (.long d1), .second, .val (.long d2), .second, rv da, rv a, .val (.int 1), .val (.int 1), .unset, .unset, .unset, .unset] []) (fun _ k => st432.trans k) ?_
      have F443 := F428.keep K432q (ninS (Ne.symm NE_a_da) (ninS NE_da_ha (ninS NE_da_pa (ninS NE_da_oa nin0))))
      have Z432 : n0 ≤ T432.heap.size := Nat.le_trans Z417 K432q.1
      have F444 : own_Ar Z T432.heap ha kh .int [(.int (1 : Int32)), g1, g2] := F440
      have F445 : own_Ar Z T432.heap pa kp .int [(.int (-1 : Int32)), (.int (0 : Int32)), (.int (-1 : Int32))] := F441
      have F446 : own_Ar Z T432.heap oa ko .long [(.long o0), (.long ((of + (1 : Int64)) + (1 : Int64))), (.long o2)] := F442
      refine own_S (mkF m 116 #[iv mk, iv xi, iv yi, .val (.long d0), .second, .val (.long d1), .second, .val (.long d2), .second, rv da, rv a, .val (.int 1), .val (.int 1), .unset, .unset, .unset, .unset] [(.ref a)]) (fun _ k => XS.aload X432.here hx rfl (hb hby at_114) rfl rfl k) ?_
      obtain ⟨cq447, kq447, q447a, q447b, q447c⟩ := isOf hZ rfl F433
      obtain ⟨_, _, ⟨T447, L447, k447, n447⟩, -, X447, ⟨Lc447, hQ447, l447, y447, z447⟩, st447⟩ := X432.virtualBack hx (y := own_y2) (z := own_y2) hown (mvT hZ (own_g hw (i := 30) rfl)) (mvT hZ (own_g hw (i := 31) rfl)) (notFace_of_selects (args := #[]) (mvT hZ (own_g hw (i := 33) rfl))) (mvT hZ (own_g hw (i := 33) rfl)) (mvT hZ (own_g hw (i := 32) rfl)) (by decide) (backOf (W := 0) (own_rmne l Z a0 hw [] (a) ((1 : Int32)) T432.heap n0 Z432 F438 (by decide)) hZ (own_g hw (i := 34) rfl) (own_g hw (i := 3) rfl) (by decide) (by decide)) q447a q447c (g := (mkF m 116 #[iv mk, iv xi, iv yi, .val (.long d0), .second, .val (.long d1), .second, .val (.long d2), .second, rv da, rv a, .val (.int 1), .val (.int 1), .unset, .unset, .unset, .unset] [(.ref a)])) rfl (by rw [hml]; rfl) (Steps.refl _) (argsL := []) (rest := []) (lenOf own_pd___Z rfl) rfl (by show 2 * 0 + _ ≤ _; exact Nat.le_of_eq rfl) (hb hby at_116) (fun _ _ => ⟨rfl, rfl, (by decide : 5 + 0 ≤ _), (by decide : 18 + 0 ≤ _)⟩)
      dsimp only [Pt.U, Pt.locs, Pt.cells, Pt.slots] at X447 l447 y447 z447 st447 hQ447
      subst l447 y447 z447
      obtain ⟨rfl, N447q, e447⟩ := hQ447
      have N447 := Fr.app N432 N447q
      refine own_S (mkF m 119 #[iv mk, iv xi, iv yi, .val (.long d0), .second, .val (.long d1), .second, .val (.long d2), .second, rv da, rv a, .val (.int 1), .val (.int 1), .unset, .unset, .unset, .unset] [(.int 0)]) (fun _ k => st447.trans k) ?_
      have hc448 : (0 : Int32) = (0 : Int32) := by decide
      refine own_S (mkF m 124 #[iv mk, iv xi, iv yi, .val (.long d0), .second, .val (.long d1), .second, .val (.long d2), .second, rv da, rv a, .val (.int 1), .val (.int 1), .unset, .unset, .unset, .unset] []) (fun _ k => XS.ifYes X447.here hx rfl (pc0 := 119) (pc' := 124) rfl (hb hby at_119) rfl ((if0 _ _).trans (teq hc448).1) (by decide) (by decide) k) ?_
      refine own_S (mkF m 126 #[iv mk, iv xi, iv yi, .val (.long d0), .second, .val (.long d1), .second, .val (.long d2), .second, rv da, rv a, .val (.int 1), .val (.int 1), .unset, .unset, .unset, .unset] [(.int 1)]) (fun _ k => XS.iload X447.here hx rfl (hb hby at_124) rfl k) ?_
      refine own_S (mkF m 128 #[iv mk, iv xi, iv yi, .val (.long d0), .second, .val (.long d1), .second, .val (.long d2), .second, rv da, rv a, .val (.int 1), .val (.int 1), .unset, .unset, .unset, .unset] [(.int 1), (.int 1)]) (fun _ k => XS.iload X447.here hx rfl (hb hby at_126) rfl k) ?_
      have hc449 : (1 : Int32) = (1 : Int32) := by decide
      refine own_S (mkF m 131 #[iv mk, iv xi, iv yi, .val (.long d0), .second, .val (.long d1), .second, .val (.long d2), .second, rv da, rv a, .val (.int 1), .val (.int 1), .unset, .unset, .unset, .unset] []) (fun _ k => XS.icmpNo X447.here hx rfl (hb hby at_128) rfl (teq hc449).2 k) ?_
      refine own_S (mkF m 133 #[iv mk, iv xi, iv yi, .val (.long d0), .second, .val (.long d1), .second, .val (.long d2), .second, rv da, rv a, .val (.int 1), .val (.int 1), .unset, .unset, .unset, .unset] [(.ref a)]) (fun _ k => XS.aload X447.here hx rfl (hb hby at_131) rfl rfl k) ?_
      obtain ⟨cq450, kq450, q450a, q450b, q450c⟩ := isOf hZ e447 F433
      obtain ⟨_, _, ⟨T450, L450, k450, n450⟩, -, X450, ⟨Lc450, hQ450, l450, y450, z450⟩, st450⟩ := X447.virtualBack hx (y := own_y9) (z := own_y9) hown (mvT hZ (own_g hw (i := 55) rfl)) (mvT hZ (own_g hw (i := 56) rfl)) (notFace_of_selects (args := #[]) (mvT hZ (own_g hw (i := 58) rfl))) (mvT hZ (own_g hw (i := 58) rfl)) (mvT hZ (own_g hw (i := 57) rfl)) (by decide) (backOf (W := 0) (own_rmpo1 l Z a0 hw [] (a) (da) (ha) (pa) (oa) (kd) (kh) (kp) (ko) ([(.long d0), (.long d1), (.long d2)]) ([(.int (1 : Int32)), g1, g2]) ([(.int (-1 : Int32)), (.int (0 : Int32)), (.int (-1 : Int32))]) ([(.long o0), (.long ((of + (1 : Int64)) + (1 : Int64))), (.long o2)]) (((of + (1 : Int64)) + (1 : Int64))) ((1 : Int32)) T432.heap n0 Z432 F433 F434 F435 F436 F437 F438 F439 F443 F444 F445 F446 G_a G_ha G_pa NE_a_da NE_a_ha NE_a_pa NE_a_oa NE_da_ha NE_da_pa NE_da_oa NE_ha_pa NE_ha_oa NE_pa_oa rfl (by decide) (show (1 : Nat) < 3 from by decide)) hZ (own_g hw (i := 59) rfl) (own_g hw (i := 3) rfl) (by decide) (by decide)) q450a q450c (g := (mkF m 133 #[iv mk, iv xi, iv yi, .val (.long d0), .second, .val (.long d1), .second, .val (.long d2), .second, rv da, rv a, .val (.int 1), .val (.int 1), .unset, .unset, .unset, .unset] [(.ref a)])) rfl (by rw [hml]; rfl) (Steps.refl _) (argsL := []) (rest := []) (lenOf own_pd___I rfl) rfl (by show 2 * 0 + _ ≤ _; exact Nat.le_of_eq rfl) (hb hby at_133) (fun _ _ => ⟨rfl, e447, (by decide : 5 + 0 ≤ _), (by decide : 18 + 0 ≤ _)⟩)
      dsimp only [Pt.U, Pt.locs, Pt.cells, Pt.slots] at X450 l450 y450 z450 st450 hQ450
      subst l450 y450 z450
      obtain ⟨rfl, N450q, K450q, F451, F452, F453, F454, F455, F456, F457, F458, F459⟩ := hQ450
      have N450 := Fr.app N447 N450q
      refine own_S (mkF m 136 #[iv mk, iv xi, iv yi, .val (.long d0), .second, .val (.long d1), .second, .val (.long d2), .second, rv da, rv a, .val (.int 1), .val (.int 1), .unset, .unset, .unset, .unset] [(.int 1)]) (fun _ k => st450.trans k) ?_
      have F460 := F443.keep K450q (ninS (Ne.symm NE_a_da) (ninS NE_da_ha (ninS NE_da_pa nin0)))
      have F461 := F446.keep K450q (ninS (Ne.symm NE_a_oa) (ninS (Ne.symm NE_ha_oa) (ninS (Ne.symm NE_pa_oa) nin0)))
      have Z450 : n0 ≤ T450.heap.size := Nat.le_trans Z432 K450q.1
      refine own_S (mkF m 138 #[iv mk, iv xi, iv yi, .val (.long d0), .second, .val (.long d1), .second, .val (.long d2), .second, rv da, rv a, .val (.int 1), .val (.int 1), .val (.int 1), .unset, .unset, .unset] []) (fun _ k => XS.istore X450.here hx rfl (hb hby at_136) rfl (l' := #[iv mk, iv xi, iv yi, .val (.long d0), .second, .val (.long d1), .second, .val (.long d2), .second, rv da, rv a, .val (.int 1), .val (.int 1), .val (.int 1), .unset, .unset, .unset]) rfl k) ?_
      refine own_S (mkF m 140 #[iv mk, iv xi, iv yi, .val (.long d0), .second, .val (.long d1), .second, .val (.long d2), .second, rv da, rv a, .val (.int 1), .val (.int 1), .val (.int 1), .unset, .unset, .unset] [(.int 1)]) (fun _ k => XS.iload X450.here hx rfl (hb hby at_138) rfl k) ?_
      refine own_S (mkF m 142 #[iv mk, iv xi, iv yi, .val (.long d0), .second, .val (.long d1), .second, .val (.long d2), .second, rv da, rv a, .val (.int 1), .val (.int 1), .val (.int 1), .unset, .unset, .unset] [(.int 1), (.int 1)]) (fun _ k => XS.iload X450.here hx rfl (hb hby at_140) rfl k) ?_
      have hc462 : (1 : Int32) = (1 : Int32) := by decide
      refine own_S (mkF m 145 #[iv mk, iv xi, iv yi, .val (.long d0), .second, .val (.long d1), .second, .val (.long d2), .second, rv da, rv a, .val (.int 1), .val (.int 1), .val (.int 1), .unset, .unset, .unset] []) (fun _ k => XS.icmpNo X450.here hx rfl (hb hby at_142) rfl (teq hc462).2 k) ?_
      refine own_S (mkF m 147 #[iv mk, iv xi, iv yi, .val (.long d0), .second, .val (.long d1), .second, .val (.long d2), .second, rv da, rv a, .val (.int 1), .val (.int 1), .val (.int 1), .unset, .unset, .unset] [(.ref a)]) (fun _ k => XS.aload X450.here hx rfl (hb hby at_145) rfl rfl k) ?_
      obtain ⟨cq463, kq463, q463a, q463b, q463c⟩ := isOf hZ rfl F451
      obtain ⟨_, _, ⟨T463, L463, k463, n463⟩, -, X463, ⟨Lc463, hQ463, l463, y463, z463⟩, st463⟩ := X450.virtualBack hx (y := own_y2) (z := own_y2) hown (mvT hZ (own_g hw (i := 30) rfl)) (mvT hZ (own_g hw (i := 31) rfl)) (notFace_of_selects (args := #[]) (mvT hZ (own_g hw (i := 33) rfl))) (mvT hZ (own_g hw (i := 33) rfl)) (mvT hZ (own_g hw (i := 32) rfl)) (by decide) (backOf (W := 0) (own_rmem l Z a0 hw [] (a) T450.heap n0 Z450 F456) hZ (own_g hw (i := 34) rfl) (own_g hw (i := 3) rfl) (by decide) (by decide)) q463a q463c (g := (mkF m 147 #[iv mk, iv xi, iv yi, .val (.long d0), .second, .val (.long d1), .second, .val (.long d2), .second, rv da, rv a, .val (.int 1), .val (.int 1), .val (.int 1), .unset, .unset, .unset] [(.ref a)])) rfl (by rw [hml]; rfl) (Steps.refl _) (argsL := []) (rest := []) (lenOf own_pd___Z rfl) rfl (by show 2 * 0 + _ ≤ _; exact Nat.le_of_eq rfl) (hb hby at_147) (fun _ _ => ⟨rfl, rfl, (by decide : 5 + 0 ≤ _), (by decide : 18 + 0 ≤ _)⟩)
      dsimp only [Pt.U, Pt.locs, Pt.cells, Pt.slots] at X463 l463 y463 z463 st463 hQ463
      subst l463 y463 z463
      obtain ⟨rfl, N463q, e463⟩ := hQ463
      have N463 := Fr.app N450 N463q
      refine own_S (mkF m 150 #[iv mk, iv xi, iv yi, .val (.long d0), .second, .val (.long d1), .second, .val (.long d2), .second, rv da, rv a, .val (.int 1), .val (.int 1), .val (.int 1), .unset, .unset, .unset] [(.int 1)]) (fun _ k => st463.trans k) ?_
      have hc464 : ¬ ((1 : Int32) = (0 : Int32)) := by decide
      refine own_S (mkF m 153 #[iv mk, iv xi, iv yi, .val (.long d0), .second, .val (.long d1), .second, .val (.long d2), .second, rv da, rv a, .val (.int 1), .val (.int 1), .val (.int 1), .unset, .unset, .unset] []) (fun _ k => XS.ifNo X463.here hx rfl (hb hby at_150) rfl ((if0 _ _).trans (feq hc464).1) k) ?_
      refine own_S (mkF m 154 #[iv mk, iv xi, iv yi, .val (.long d0), .second, .val (.long d1), .second, .val (.long d2), .second, rv da, rv a, .val (.int 1), .val (.int 1), .val (.int 1), .unset, .unset, .unset] [(.int 1)]) (fun _ k => XS.iconst X463.here hx rfl (hb hby at_153) k) ?_
      refine own_S (mkF m 158 #[iv mk, iv xi, iv yi, .val (.long d0), .second, .val (.long d1), .second, .val (.long d2), .second, rv da, rv a, .val (.int 1), .val (.int 1), .val (.int 1), .unset, .unset, .unset] [(.int 1)]) (fun _ k => XS.goto X463.here hx rfl (pc0 := 154) (pc' := 158) rfl (hb hby at_154) (by decide) (by decide) k) ?_
      exact own_retN X463 hx hlk (t := .boolean) hret (by simp) (hb hby at_158) (by rw [e463]; exact ⟨rfl, N463, trivial⟩) (by decide) (by decide)
    · -- bv = 2
      subst q297_2
      obtain ⟨cq465, kq465, q465a, q465b, q465c⟩ := isOf hZ e1 P0
      obtain ⟨_, _, ⟨T465, L465, k465, n465⟩, -, X465, ⟨Lc465, hQ465, l465, y465, z465⟩, st465⟩ := X1.virtualBack hx (y := own_y6) (z := own_y6) hown (mvT hZ (own_g hw (i := 36) rfl)) (mvT hZ (own_g hw (i := 37) rfl)) (notFace_of_selects (args := #[]) (mvT hZ (own_g hw (i := 39) rfl))) (mvT hZ (own_g hw (i := 39) rfl)) (mvT hZ (own_g hw (i := 38) rfl)) (by decide) (backOf (W := 0) (own_rmofA l Z a0 hw [] (a) (da) (ha) (pa) (oa) (kd) (kh) (kp) (ko) ([(.long d0), (.long d1), (.long d2)]) ([g0, g1, g2]) ([(.int (-1 : Int32)), (.int (-1 : Int32)), (.int (-1 : Int32))]) ([(.long o0), (.long o1), (.long o2)]) ((1 : Int32)) (of) hh n0 Z0 P0 P1 P2 P3 P4 P5 P6 P7 P8 P9 P10 G_a G_ha G_pa G_oa NE_a_da NE_a_ha NE_a_pa NE_a_oa NE_da_ha NE_da_pa NE_da_oa NE_ha_pa NE_ha_oa NE_pa_oa (by decide) (show (1 : Nat) < 3 from by decide) (show (1 : Nat) < 3 from by decide) rfl (show (0 : Nat) < 3 from by decide)) hZ (own_g hw (i := 40) rfl) (own_g hw (i := 3) rfl) (by decide) (by decide)) q465a q465c (g := (mkF m 104 #[iv mk, iv xi, iv yi, .val (.long d0), .second, .val (.long d1), .second, .val (.long d2), .second, rv da, rv a, .val (.int 1), .val (.int 2), .unset, .unset, .unset, .unset] [(.int 1), (.ref a)])) rfl (by rw [hml]; rfl) (Steps.refl _) (argsL := [(.int 1)]) (rest := []) (lenOf own_pd__I_V rfl) rfl (by show 2 * 0 + _ ≤ _; exact Nat.le_of_eq rfl) (hb hby at_104) (fun _ _ => ⟨rfl, e1, (by decide : 5 + 0 ≤ _), (by decide : 18 + 0 ≤ _)⟩)
      dsimp only [Pt.U, Pt.locs, Pt.cells, Pt.slots] at X465 l465 y465 z465 st465 hQ465
      subst l465 y465 z465
      obtain ⟨rfl, N465q, K465q, F466, F467, F468, F469, F470, F471, F472, F473, F474, F475⟩ := hQ465
      have N465 := Fr.app N1 N465q
      refine own_S (mkF m 107 #[iv mk, iv xi, iv yi, .val (.long d0), .second, .val (.long d1), .second, .val (.long d2), .second, rv da, rv a, .val (.int 1), .val (.int 2), .unset, .unset, .unset, .unset] []) (fun _ k => st465.trans k) ?_
      have F476 := P7.keep K465q (ninS (Ne.symm NE_a_da) (ninS NE_da_ha (ninS NE_da_pa (ninS NE_da_oa nin0))))
      have Z465 : n0 ≤ T465.heap.size := Nat.le_trans Z0 K465q.1
      have F477 : own_Ar Z T465.heap ha kh .int [(.int (1 : Int32)), g1, g2] := F473
      have F478 : own_Ar Z T465.heap pa kp .int [(.int (-1 : Int32)), (.int (0 : Int32)), (.int (-1 : Int32))] := F474
      have F479 : own_Ar Z T465.heap oa ko .long [(.long o0), (.long (of + (1 : Int64))), (.long o2)] := F475
      refine own_S (mkF m 109 #[iv mk, iv xi, iv yi, .val (.long d0), .second, .val (.long d1), .second, .val (.long d2), .second, rv da, rv a, .val (.int 1), .val (.int 2), .unset, .unset, .unset, .unset] [(.ref a)]) (fun _ k => XS.aload X465.here hx rfl (hb hby at_107) rfl rfl k) ?_
      refine own_S (mkF m 111 #[iv mk, iv xi, iv yi, .val (.long d0), .second, .val (.long d1), .second, .val (.long d2), .second, rv da, rv a, .val (.int 1), .val (.int 2), .unset, .unset, .unset, .unset] [(.int 2), (.ref a)]) (fun _ k => XS.iload X465.here hx rfl (hb hby at_109) rfl k) ?_
      by_cases hB : (d2 < d1 ∨ (d2 = d1 ∧ (of + (1 : Int64)) < ((of + (1 : Int64)) + (1 : Int64))))
      ·
        obtain ⟨cq480, kq480, q480a, q480b, q480c⟩ := isOf hZ rfl F466
        obtain ⟨_, _, ⟨T480, L480, k480, n480⟩, -, X480, ⟨Lc480, hQ480, l480, y480, z480⟩, st480⟩ := X465.virtualBack hx (y := own_y6) (z := own_y6) hown (mvT hZ (own_g hw (i := 36) rfl)) (mvT hZ (own_g hw (i := 37) rfl)) (notFace_of_selects (args := #[]) (mvT hZ (own_g hw (i := 39) rfl))) (mvT hZ (own_g hw (i := 39) rfl)) (mvT hZ (own_g hw (i := 38) rfl)) (by decide) (backOf (W := 0) (own_rmof1m l Z a0 hw [] (a) (da) (ha) (pa) (oa) (kd) (kh) (kp) (ko) ([(.long d0), (.long d1), (.long d2)]) ([(.int (1 : Int32)), g1, g2]) ([(.int (-1 : Int32)), (.int (0 : Int32)), (.int (-1 : Int32))]) ([(.long o0), (.long (of + (1 : Int64))), (.long o2)]) ((2 : Int32)) ((1 : Int32)) ((of + (1 : Int64))) (d2) (d1) ((of + (1 : Int64))) T465.heap n0 Z465 F466 F467 F468 F469 F470 F471 F472 F476 F477 F478 F479 G_a G_ha G_pa G_oa NE_a_da NE_a_ha NE_a_pa NE_a_oa NE_da_ha NE_da_pa NE_da_oa NE_ha_pa NE_ha_oa NE_pa_oa (by decide) (show (2 : Nat) < 3 from by decide) (show (2 : Nat) < 3 from by decide) rfl (show (1 : Nat) < 3 from by decide) rfl (by decide) (show (1 : Nat) < 3 from by decide) (by decide) rfl rfl rfl hB) hZ (own_g hw (i := 40) rfl) (own_g hw (i := 3) rfl) (by decide) (by decide)) q480a q480c (g := (mkF m 111 #[iv mk, iv xi, iv yi, .val (.long d0), .second, .val (.long d1), .second, .val (.long d2), .second, rv da, rv a, .val (.int 1), .val (.int 2), .unset, .unset, .unset, .unset] [(.int 2), (.ref a)])) rfl (by rw [hml]; rfl) (Steps.refl _) (argsL := [(.int 2)]) (rest := []) (lenOf own_pd__I_V rfl) rfl (by show 2 * 0 + _ ≤ _; exact Nat.le_of_eq rfl) (hb hby at_111) (fun _ _ => ⟨rfl, rfl, (by decide : 5 + 0 ≤ _), (by decide : 18 + 0 ≤ _)⟩)
        dsimp only [Pt.U, Pt.locs, Pt.cells, Pt.slots] at X480 l480 y480 z480 st480 hQ480
        subst l480 y480 z480
        obtain ⟨rfl, N480q, K480q, F481, F482, F483, F484, F485, F486, F487, F488, F489, F490⟩ := hQ480
        have N480 := Fr.app N465 N480q
        refine own_S (mkF m 114 #[iv mk, iv xi, iv yi, .val (.long d0), .second, .val (.long d1), .second, .val (.long d2), .second, rv da, rv a, .val (.int 1), .val (.int 2), .unset, .unset, .unset, .unset] []) (fun _ k => st480.trans k) ?_
        have F491 := F476.keep K480q (ninS (Ne.symm NE_a_da) (ninS NE_da_ha (ninS NE_da_pa (ninS NE_da_oa nin0))))
        have Z480 : n0 ≤ T480.heap.size := Nat.le_trans Z465 K480q.1
        have F492 : own_Ar Z T480.heap ha kh .int [(.int (2 : Int32)), (.int (1 : Int32)), g2] := F488
        have F493 : own_Ar Z T480.heap pa kp .int [(.int (-1 : Int32)), (.int (1 : Int32)), (.int (0 : Int32))] := F489
        have F494 : own_Ar Z T480.heap oa ko .long [(.long o0), (.long (of + (1 : Int64))), (.long ((of + (1 : Int64)) + (1 : Int64)))] := F490
        refine own_S (mkF m 116 #[iv mk, iv xi, iv yi, .val (.long d0), .second, .val (.long d1), .second, .val (.long d2), .second, rv da, rv a, .val (.int 1), .val (.int 2), .unset, .unset, .unset, .unset] [(.ref a)]) (fun _ k => XS.aload X480.here hx rfl (hb hby at_114) rfl rfl k) ?_
        obtain ⟨cq495, kq495, q495a, q495b, q495c⟩ := isOf hZ rfl F481
        obtain ⟨_, _, ⟨T495, L495, k495, n495⟩, -, X495, ⟨Lc495, hQ495, l495, y495, z495⟩, st495⟩ := X480.virtualBack hx (y := own_y2) (z := own_y2) hown (mvT hZ (own_g hw (i := 30) rfl)) (mvT hZ (own_g hw (i := 31) rfl)) (notFace_of_selects (args := #[]) (mvT hZ (own_g hw (i := 33) rfl))) (mvT hZ (own_g hw (i := 33) rfl)) (mvT hZ (own_g hw (i := 32) rfl)) (by decide) (backOf (W := 0) (own_rmne l Z a0 hw [] (a) ((2 : Int32)) T480.heap n0 Z480 F486 (by decide)) hZ (own_g hw (i := 34) rfl) (own_g hw (i := 3) rfl) (by decide) (by decide)) q495a q495c (g := (mkF m 116 #[iv mk, iv xi, iv yi, .val (.long d0), .second, .val (.long d1), .second, .val (.long d2), .second, rv da, rv a, .val (.int 1), .val (.int 2), .unset, .unset, .unset, .unset] [(.ref a)])) rfl (by rw [hml]; rfl) (Steps.refl _) (argsL := []) (rest := []) (lenOf own_pd___Z rfl) rfl (by show 2 * 0 + _ ≤ _; exact Nat.le_of_eq rfl) (hb hby at_116) (fun _ _ => ⟨rfl, rfl, (by decide : 5 + 0 ≤ _), (by decide : 18 + 0 ≤ _)⟩)
        dsimp only [Pt.U, Pt.locs, Pt.cells, Pt.slots] at X495 l495 y495 z495 st495 hQ495
        subst l495 y495 z495
        obtain ⟨rfl, N495q, e495⟩ := hQ495
        have N495 := Fr.app N480 N495q
        refine own_S (mkF m 119 #[iv mk, iv xi, iv yi, .val (.long d0), .second, .val (.long d1), .second, .val (.long d2), .second, rv da, rv a, .val (.int 1), .val (.int 2), .unset, .unset, .unset, .unset] [(.int 0)]) (fun _ k => st495.trans k) ?_
        have hc496 : (0 : Int32) = (0 : Int32) := by decide
        refine own_S (mkF m 124 #[iv mk, iv xi, iv yi, .val (.long d0), .second, .val (.long d1), .second, .val (.long d2), .second, rv da, rv a, .val (.int 1), .val (.int 2), .unset, .unset, .unset, .unset] []) (fun _ k => XS.ifYes X495.here hx rfl (pc0 := 119) (pc' := 124) rfl (hb hby at_119) rfl ((if0 _ _).trans (teq hc496).1) (by decide) (by decide) k) ?_
        refine own_S (mkF m 126 #[iv mk, iv xi, iv yi, .val (.long d0), .second, .val (.long d1), .second, .val (.long d2), .second, rv da, rv a, .val (.int 1), .val (.int 2), .unset, .unset, .unset, .unset] [(.int 1)]) (fun _ k => XS.iload X495.here hx rfl (hb hby at_124) rfl k) ?_
        refine own_S (mkF m 128 #[iv mk, iv xi, iv yi, .val (.long d0), .second, .val (.long d1), .second, .val (.long d2), .second, rv da, rv a, .val (.int 1), .val (.int 2), .unset, .unset, .unset, .unset] [(.int 2), (.int 1)]) (fun _ k => XS.iload X495.here hx rfl (hb hby at_126) rfl k) ?_
        have hc497 : ¬ ((1 : Int32) = (2 : Int32)) := by decide
        refine own_S (mkF m 159 #[iv mk, iv xi, iv yi, .val (.long d0), .second, .val (.long d1), .second, .val (.long d2), .second, rv da, rv a, .val (.int 1), .val (.int 2), .unset, .unset, .unset, .unset] []) (fun _ k => XS.icmpYes X495.here hx rfl (pc0 := 128) (pc' := 159) rfl (hb hby at_128) rfl (feq hc497).2 (by decide) (by decide) k) ?_
        refine own_S (mkF m 161 #[iv mk, iv xi, iv yi, .val (.long d0), .second, .val (.long d1), .second, .val (.long d2), .second, rv da, rv a, .val (.int 1), .val (.int 2), .unset, .unset, .unset, .unset] [(.ref da)]) (fun _ k => XS.aload X495.here hx rfl (hb hby at_159) rfl rfl k) ?_
        refine own_S (mkF m 163 #[iv mk, iv xi, iv yi, .val (.long d0), .second, .val (.long d1), .second, .val (.long d2), .second, rv da, rv a, .val (.int 1), .val (.int 2), .unset, .unset, .unset, .unset] [(.int 1), (.ref da)]) (fun _ k => XS.iload X495.here hx rfl (hb hby at_161) rfl k) ?_
        refine own_S (mkF m 164 #[iv mk, iv xi, iv yi, .val (.long d0), .second, .val (.long d1), .second, .val (.long d2), .second, rv da, rv a, .val (.int 1), .val (.int 2), .unset, .unset, .unset, .unset] [(.long d1)]) (fun _ k => own_ldJ X495 hx hZ e495 F491 (by decide) rfl (g := (mkF m 163 #[iv mk, iv xi, iv yi, .val (.long d0), .second, .val (.long d1), .second, .val (.long d2), .second, rv da, rv a, .val (.int 1), .val (.int 2), .unset, .unset, .unset, .unset] [(.int 1), (.ref da)])) rfl rfl (hb hby at_163) _ k) ?_
        refine own_S (mkF m 166 #[iv mk, iv xi, iv yi, .val (.long d0), .second, .val (.long d1), .second, .val (.long d2), .second, rv da, rv a, .val (.int 1), .val (.int 2), .unset, .unset, .unset, .unset] [(.ref da), (.long d1)]) (fun _ k => XS.aload X495.here hx rfl (hb hby at_164) rfl rfl k) ?_
        refine own_S (mkF m 168 #[iv mk, iv xi, iv yi, .val (.long d0), .second, .val (.long d1), .second, .val (.long d2), .second, rv da, rv a, .val (.int 1), .val (.int 2), .unset, .unset, .unset, .unset] [(.int 2), (.ref da), (.long d1)]) (fun _ k => XS.iload X495.here hx rfl (hb hby at_166) rfl k) ?_
        refine own_S (mkF m 169 #[iv mk, iv xi, iv yi, .val (.long d0), .second, .val (.long d1), .second, .val (.long d2), .second, rv da, rv a, .val (.int 1), .val (.int 2), .unset, .unset, .unset, .unset] [(.long d2), (.long d1)]) (fun _ k => own_ldJ X495 hx hZ e495 F491 (by decide) rfl (g := (mkF m 168 #[iv mk, iv xi, iv yi, .val (.long d0), .second, .val (.long d1), .second, .val (.long d2), .second, rv da, rv a, .val (.int 1), .val (.int 2), .unset, .unset, .unset, .unset] [(.int 2), (.ref da), (.long d1)])) rfl rfl (hb hby at_168) _ k) ?_
        refine own_S (mkF m 170 #[iv mk, iv xi, iv yi, .val (.long d0), .second, .val (.long d1), .second, .val (.long d2), .second, rv da, rv a, .val (.int 1), .val (.int 2), .unset, .unset, .unset, .unset] [(.int (lcmpW d1 d2))]) (fun _ k => XS.lcmp X495.here hx rfl (hb hby at_169) rfl k) ?_
        have hc498 : ¬ (d1 < d2) := (own_nlt hB)
        refine own_S (mkF m 178 #[iv mk, iv xi, iv yi, .val (.long d0), .second, .val (.long d1), .second, .val (.long d2), .second, rv da, rv a, .val (.int 1), .val (.int 2), .unset, .unset, .unset, .unset] []) (fun _ k => XS.ifYes X495.here hx rfl (pc0 := 170) (pc' := 178) rfl (hb hby at_170) rfl ((if0 _ _).trans (flt (fun q => hc498 ((lw_lt d1 d2).mp q))).2.1) (by decide) (by decide) k) ?_
        refine own_S (mkF m 180 #[iv mk, iv xi, iv yi, .val (.long d0), .second, .val (.long d1), .second, .val (.long d2), .second, rv da, rv a, .val (.int 1), .val (.int 2), .unset, .unset, .unset, .unset] [(.int 2)]) (fun _ k => XS.iload X495.here hx rfl (hb hby at_178) rfl k) ?_
        refine own_S (mkF m 182 #[iv mk, iv xi, iv yi, .val (.long d0), .second, .val (.long d1), .second, .val (.long d2), .second, rv da, rv a, .val (.int 1), .val (.int 2), .val (.int 2), .unset, .unset, .unset] []) (fun _ k => XS.istore X495.here hx rfl (hb hby at_180) rfl (l' := #[iv mk, iv xi, iv yi, .val (.long d0), .second, .val (.long d1), .second, .val (.long d2), .second, rv da, rv a, .val (.int 1), .val (.int 2), .val (.int 2), .unset, .unset, .unset]) rfl k) ?_
        refine own_S (mkF m 184 #[iv mk, iv xi, iv yi, .val (.long d0), .second, .val (.long d1), .second, .val (.long d2), .second, rv da, rv a, .val (.int 1), .val (.int 2), .val (.int 2), .unset, .unset, .unset] [(.int 2)]) (fun _ k => XS.iload X495.here hx rfl (hb hby at_182) rfl k) ?_
        refine own_S (mkF m 186 #[iv mk, iv xi, iv yi, .val (.long d0), .second, .val (.long d1), .second, .val (.long d2), .second, rv da, rv a, .val (.int 1), .val (.int 2), .val (.int 2), .unset, .unset, .unset] [(.int 1), (.int 2)]) (fun _ k => XS.iload X495.here hx rfl (hb hby at_184) rfl k) ?_
        have hc499 : ¬ ((2 : Int32) = (1 : Int32)) := by decide
        refine own_S (mkF m 194 #[iv mk, iv xi, iv yi, .val (.long d0), .second, .val (.long d1), .second, .val (.long d2), .second, rv da, rv a, .val (.int 1), .val (.int 2), .val (.int 2), .unset, .unset, .unset] []) (fun _ k => XS.icmpYes X495.here hx rfl (pc0 := 186) (pc' := 194) rfl (hb hby at_186) rfl (feq hc499).2 (by decide) (by decide) k) ?_
        refine own_S (mkF m 196 #[iv mk, iv xi, iv yi, .val (.long d0), .second, .val (.long d1), .second, .val (.long d2), .second, rv da, rv a, .val (.int 1), .val (.int 2), .val (.int 2), .unset, .unset, .unset] [(.int 1)]) (fun _ k => XS.iload X495.here hx rfl (hb hby at_194) rfl k) ?_
        refine own_S (mkF m 198 #[iv mk, iv xi, iv yi, .val (.long d0), .second, .val (.long d1), .second, .val (.long d2), .second, rv da, rv a, .val (.int 1), .val (.int 2), .val (.int 2), .val (.int 1), .unset, .unset] []) (fun _ k => XS.istore X495.here hx rfl (hb hby at_196) rfl (l' := #[iv mk, iv xi, iv yi, .val (.long d0), .second, .val (.long d1), .second, .val (.long d2), .second, rv da, rv a, .val (.int 1), .val (.int 2), .val (.int 2), .val (.int 1), .unset, .unset]) rfl k) ?_
        refine own_S (mkF m 200 #[iv mk, iv xi, iv yi, .val (.long d0), .second, .val (.long d1), .second, .val (.long d2), .second, rv da, rv a, .val (.int 1), .val (.int 2), .val (.int 2), .val (.int 1), .unset, .unset] [(.ref a)]) (fun _ k => XS.aload X495.here hx rfl (hb hby at_198) rfl rfl k) ?_
        obtain ⟨cq500, kq500, q500a, q500b, q500c⟩ := isOf hZ e495 F481
        obtain ⟨_, _, ⟨T500, L500, k500, n500⟩, -, X500, ⟨Lc500, hQ500, l500, y500, z500⟩, st500⟩ := X495.virtualBack hx (y := own_y9) (z := own_y9) hown (mvT hZ (own_g hw (i := 55) rfl)) (mvT hZ (own_g hw (i := 56) rfl)) (notFace_of_selects (args := #[]) (mvT hZ (own_g hw (i := 58) rfl))) (mvT hZ (own_g hw (i := 58) rfl)) (mvT hZ (own_g hw (i := 57) rfl)) (by decide) (backOf (W := 0) (own_rmpo2 l Z a0 hw [] (a) (da) (ha) (pa) (oa) (kd) (kh) (kp) (ko) ([(.long d0), (.long d1), (.long d2)]) ([(.int (2 : Int32)), (.int (1 : Int32)), g2]) ([(.int (-1 : Int32)), (.int (1 : Int32)), (.int (0 : Int32))]) ([(.long o0), (.long (of + (1 : Int64))), (.long ((of + (1 : Int64)) + (1 : Int64)))]) (((of + (1 : Int64)) + (1 : Int64))) ((2 : Int32)) ((1 : Int32)) T480.heap n0 Z480 F481 F482 F483 F484 F485 F486 F487 F491 F492 F493 F494 G_a G_ha G_pa NE_a_da NE_a_ha NE_a_pa NE_a_oa NE_da_ha NE_da_pa NE_da_oa NE_ha_pa NE_ha_oa NE_pa_oa rfl (by decide) (show (2 : Nat) < 3 from by decide) rfl (by decide) (show (1 : Nat) < 3 from by decide)) hZ (own_g hw (i := 59) rfl) (own_g hw (i := 3) rfl) (by decide) (by decide)) q500a q500c (g := (mkF m 200 #[iv mk, iv xi, iv yi, .val (.long d0), .second, .val (.long d1), .second, .val (.long d2), .second, rv da, rv a, .val (.int 1), .val (.int 2), .val (.int 2), .val (.int 1), .unset, .unset] [(.ref a)])) rfl (by rw [hml]; rfl) (Steps.refl _) (argsL := []) (rest := []) (lenOf own_pd___I rfl) rfl (by show 2 * 0 + _ ≤ _; exact Nat.le_of_eq rfl) (hb hby at_200) (fun _ _ => ⟨rfl, e495, (by decide : 5 + 0 ≤ _), (by decide : 18 + 0 ≤ _)⟩)
        dsimp only [Pt.U, Pt.locs, Pt.cells, Pt.slots] at X500 l500 y500 z500 st500 hQ500
        subst l500 y500 z500
        obtain ⟨rfl, N500q, K500q, F501, F502, F503, F504, F505, F506, F507, F508, F509⟩ := hQ500
        have N500 := Fr.app N495 N500q
        refine own_S (mkF m 203 #[iv mk, iv xi, iv yi, .val (.long d0), .second, .val (.long d1), .second, .val (.long d2), .second, rv da, rv a, .val (.int 1), .val (.int 2), .val (.int 2), .val (.int 1), .unset, .unset] [(.int 2)]) (fun _ k => st500.trans k) ?_
        have F510 := F491.keep K500q (ninS (Ne.symm NE_a_da) (ninS NE_da_ha (ninS NE_da_pa nin0)))
        have F511 := F494.keep K500q (ninS (Ne.symm NE_a_oa) (ninS (Ne.symm NE_ha_oa) (ninS (Ne.symm NE_pa_oa) nin0)))
        have Z500 : n0 ≤ T500.heap.size := Nat.le_trans Z480 K500q.1
        have F512 : own_Ar Z T500.heap ha kh .int [(.int (1 : Int32)), (.int (1 : Int32)), g2] := F508
        have F513 : own_Ar Z T500.heap pa kp .int [(.int (-1 : Int32)), (.int (0 : Int32)), (.int (-1 : Int32))] := F509
        refine own_S (mkF m 205 #[iv mk, iv xi, iv yi, .val (.long d0), .second, .val (.long d1), .second, .val (.long d2), .second, rv da, rv a, .val (.int 1), .val (.int 2), .val (.int 2), .val (.int 1), .val (.int 2), .unset] []) (fun _ k => XS.istore X500.here hx rfl (hb hby at_203) rfl (l' := #[iv mk, iv xi, iv yi, .val (.long d0), .second, .val (.long d1), .second, .val (.long d2), .second, rv da, rv a, .val (.int 1), .val (.int 2), .val (.int 2), .val (.int 1), .val (.int 2), .unset]) rfl k) ?_
        refine own_S (mkF m 207 #[iv mk, iv xi, iv yi, .val (.long d0), .second, .val (.long d1), .second, .val (.long d2), .second, rv da, rv a, .val (.int 1), .val (.int 2), .val (.int 2), .val (.int 1), .val (.int 2), .unset] [(.int 2)]) (fun _ k => XS.iload X500.here hx rfl (hb hby at_205) rfl k) ?_
        refine own_S (mkF m 209 #[iv mk, iv xi, iv yi, .val (.long d0), .second, .val (.long d1), .second, .val (.long d2), .second, rv da, rv a, .val (.int 1), .val (.int 2), .val (.int 2), .val (.int 1), .val (.int 2), .unset] [(.int 2), (.int 2)]) (fun _ k => XS.iload X500.here hx rfl (hb hby at_207) rfl k) ?_
        have hc514 : (2 : Int32) = (2 : Int32) := by decide
        refine own_S (mkF m 214 #[iv mk, iv xi, iv yi, .val (.long d0), .second, .val (.long d1), .second, .val (.long d2), .second, rv da, rv a, .val (.int 1), .val (.int 2), .val (.int 2), .val (.int 1), .val (.int 2), .unset] []) (fun _ k => XS.icmpYes X500.here hx rfl (pc0 := 209) (pc' := 214) rfl (hb hby at_209) rfl (teq hc514).1 (by decide) (by decide) k) ?_
        refine own_S (mkF m 216 #[iv mk, iv xi, iv yi, .val (.long d0), .second, .val (.long d1), .second, .val (.long d2), .second, rv da, rv a, .val (.int 1), .val (.int 2), .val (.int 2), .val (.int 1), .val (.int 2), .unset] [(.ref a)]) (fun _ k => XS.aload X500.here hx rfl (hb hby at_214) rfl rfl k) ?_
        obtain ⟨cq515, kq515, q515a, q515b, q515c⟩ := isOf hZ rfl F501
        obtain ⟨_, _, ⟨T515, L515, k515, n515⟩, -, X515, ⟨Lc515, hQ515, l515, y515, z515⟩, st515⟩ := X500.virtualBack hx (y := own_y2) (z := own_y2) hown (mvT hZ (own_g hw (i := 30) rfl)) (mvT hZ (own_g hw (i := 31) rfl)) (notFace_of_selects (args := #[]) (mvT hZ (own_g hw (i := 33) rfl))) (mvT hZ (own_g hw (i := 33) rfl)) (mvT hZ (own_g hw (i := 32) rfl)) (by decide) (backOf (W := 0) (own_rmne l Z a0 hw [] (a) ((1 : Int32)) T500.heap n0 Z500 F506 (by decide)) hZ (own_g hw (i := 34) rfl) (own_g hw (i := 3) rfl) (by decide) (by decide)) q515a q515c (g := (mkF m 216 #[iv mk, iv xi, iv yi, .val (.long d0), .second, .val (.long d1), .second, .val (.long d2), .second, rv da, rv a, .val (.int 1), .val (.int 2), .val (.int 2), .val (.int 1), .val (.int 2), .unset] [(.ref a)])) rfl (by rw [hml]; rfl) (Steps.refl _) (argsL := []) (rest := []) (lenOf own_pd___Z rfl) rfl (by show 2 * 0 + _ ≤ _; exact Nat.le_of_eq rfl) (hb hby at_216) (fun _ _ => ⟨rfl, rfl, (by decide : 5 + 0 ≤ _), (by decide : 18 + 0 ≤ _)⟩)
        dsimp only [Pt.U, Pt.locs, Pt.cells, Pt.slots] at X515 l515 y515 z515 st515 hQ515
        subst l515 y515 z515
        obtain ⟨rfl, N515q, e515⟩ := hQ515
        have N515 := Fr.app N500 N515q
        refine own_S (mkF m 219 #[iv mk, iv xi, iv yi, .val (.long d0), .second, .val (.long d1), .second, .val (.long d2), .second, rv da, rv a, .val (.int 1), .val (.int 2), .val (.int 2), .val (.int 1), .val (.int 2), .unset] [(.int 0)]) (fun _ k => st515.trans k) ?_
        have hc516 : (0 : Int32) = (0 : Int32) := by decide
        refine own_S (mkF m 224 #[iv mk, iv xi, iv yi, .val (.long d0), .second, .val (.long d1), .second, .val (.long d2), .second, rv da, rv a, .val (.int 1), .val (.int 2), .val (.int 2), .val (.int 1), .val (.int 2), .unset] []) (fun _ k => XS.ifYes X515.here hx rfl (pc0 := 219) (pc' := 224) rfl (hb hby at_219) rfl ((if0 _ _).trans (teq hc516).1) (by decide) (by decide) k) ?_
        refine own_S (mkF m 226 #[iv mk, iv xi, iv yi, .val (.long d0), .second, .val (.long d1), .second, .val (.long d2), .second, rv da, rv a, .val (.int 1), .val (.int 2), .val (.int 2), .val (.int 1), .val (.int 2), .unset] [(.ref a)]) (fun _ k => XS.aload X515.here hx rfl (hb hby at_224) rfl rfl k) ?_
        obtain ⟨cq517, kq517, q517a, q517b, q517c⟩ := isOf hZ e515 F501
        obtain ⟨_, _, ⟨T517, L517, k517, n517⟩, -, X517, ⟨Lc517, hQ517, l517, y517, z517⟩, st517⟩ := X515.virtualBack hx (y := own_y9) (z := own_y9) hown (mvT hZ (own_g hw (i := 55) rfl)) (mvT hZ (own_g hw (i := 56) rfl)) (notFace_of_selects (args := #[]) (mvT hZ (own_g hw (i := 58) rfl))) (mvT hZ (own_g hw (i := 58) rfl)) (mvT hZ (own_g hw (i := 57) rfl)) (by decide) (backOf (W := 0) (own_rmpo1 l Z a0 hw [] (a) (da) (ha) (pa) (oa) (kd) (kh) (kp) (ko) ([(.long d0), (.long d1), (.long d2)]) ([(.int (1 : Int32)), (.int (1 : Int32)), g2]) ([(.int (-1 : Int32)), (.int (0 : Int32)), (.int (-1 : Int32))]) ([(.long o0), (.long (of + (1 : Int64))), (.long ((of + (1 : Int64)) + (1 : Int64)))]) (((of + (1 : Int64)) + (1 : Int64))) ((1 : Int32)) T500.heap n0 Z500 F501 F502 F503 F504 F505 F506 F507 F510 F512 F513 F511 G_a G_ha G_pa NE_a_da NE_a_ha NE_a_pa NE_a_oa NE_da_ha NE_da_pa NE_da_oa NE_ha_pa NE_ha_oa NE_pa_oa rfl (by decide) (show (1 : Nat) < 3 from by decide)) hZ (own_g hw (i := 59) rfl) (own_g hw (i := 3) rfl) (by decide) (by decide)) q517a q517c (g := (mkF m 226 #[iv mk, iv xi, iv yi, .val (.long d0), .second, .val (.long d1), .second, .val (.long d2), .second, rv da, rv a, .val (.int 1), .val (.int 2), .val (.int 2), .val (.int 1), .val (.int 2), .unset] [(.ref a)])) rfl (by rw [hml]; rfl) (Steps.refl _) (argsL := []) (rest := []) (lenOf own_pd___I rfl) rfl (by show 2 * 0 + _ ≤ _; exact Nat.le_of_eq rfl) (hb hby at_226) (fun _ _ => ⟨rfl, e515, (by decide : 5 + 0 ≤ _), (by decide : 18 + 0 ≤ _)⟩)
        dsimp only [Pt.U, Pt.locs, Pt.cells, Pt.slots] at X517 l517 y517 z517 st517 hQ517
        subst l517 y517 z517
        obtain ⟨rfl, N517q, K517q, F518, F519, F520, F521, F522, F523, F524, F525, F526⟩ := hQ517
        have N517 := Fr.app N515 N517q
        refine own_S (mkF m 229 #[iv mk, iv xi, iv yi, .val (.long d0), .second, .val (.long d1), .second, .val (.long d2), .second, rv da, rv a, .val (.int 1), .val (.int 2), .val (.int 2), .val (.int 1), .val (.int 2), .unset] [(.int 1)]) (fun _ k => st517.trans k) ?_
        have F527 := F510.keep K517q (ninS (Ne.symm NE_a_da) (ninS NE_da_ha (ninS NE_da_pa nin0)))
        have F528 := F511.keep K517q (ninS (Ne.symm NE_a_oa) (ninS (Ne.symm NE_ha_oa) (ninS (Ne.symm NE_pa_oa) nin0)))
        have Z517 : n0 ≤ T517.heap.size := Nat.le_trans Z500 K517q.1
        refine own_S (mkF m 231 #[iv mk, iv xi, iv yi, .val (.long d0), .second, .val (.long d1), .second, .val (.long d2), .second, rv da, rv a, .val (.int 1), .val (.int 2), .val (.int 2), .val (.int 1), .val (.int 2), .val (.int 1)] []) (fun _ k => XS.istore X517.here hx rfl (hb hby at_229) rfl (l' := #[iv mk, iv xi, iv yi, .val (.long d0), .second, .val (.long d1), .second, .val (.long d2), .second, rv da, rv a, .val (.int 1), .val (.int 2), .val (.int 2), .val (.int 1), .val (.int 2), .val (.int 1)]) rfl k) ?_
        refine own_S (mkF m 233 #[iv mk, iv xi, iv yi, .val (.long d0), .second, .val (.long d1), .second, .val (.long d2), .second, rv da, rv a, .val (.int 1), .val (.int 2), .val (.int 2), .val (.int 1), .val (.int 2), .val (.int 1)] [(.int 1)]) (fun _ k => XS.iload X517.here hx rfl (hb hby at_231) rfl k) ?_
        refine own_S (mkF m 235 #[iv mk, iv xi, iv yi, .val (.long d0), .second, .val (.long d1), .second, .val (.long d2), .second, rv da, rv a, .val (.int 1), .val (.int 2), .val (.int 2), .val (.int 1), .val (.int 2), .val (.int 1)] [(.int 1), (.int 1)]) (fun _ k => XS.iload X517.here hx rfl (hb hby at_233) rfl k) ?_
        have hc529 : (1 : Int32) = (1 : Int32) := by decide
        refine own_S (mkF m 238 #[iv mk, iv xi, iv yi, .val (.long d0), .second, .val (.long d1), .second, .val (.long d2), .second, rv da, rv a, .val (.int 1), .val (.int 2), .val (.int 2), .val (.int 1), .val (.int 2), .val (.int 1)] []) (fun _ k => XS.icmpNo X517.here hx rfl (hb hby at_235) rfl (teq hc529).2 k) ?_
        refine own_S (mkF m 240 #[iv mk, iv xi, iv yi, .val (.long d0), .second, .val (.long d1), .second, .val (.long d2), .second, rv da, rv a, .val (.int 1), .val (.int 2), .val (.int 2), .val (.int 1), .val (.int 2), .val (.int 1)] [(.ref a)]) (fun _ k => XS.aload X517.here hx rfl (hb hby at_238) rfl rfl k) ?_
        obtain ⟨cq530, kq530, q530a, q530b, q530c⟩ := isOf hZ rfl F518
        obtain ⟨_, _, ⟨T530, L530, k530, n530⟩, -, X530, ⟨Lc530, hQ530, l530, y530, z530⟩, st530⟩ := X517.virtualBack hx (y := own_y2) (z := own_y2) hown (mvT hZ (own_g hw (i := 30) rfl)) (mvT hZ (own_g hw (i := 31) rfl)) (notFace_of_selects (args := #[]) (mvT hZ (own_g hw (i := 33) rfl))) (mvT hZ (own_g hw (i := 33) rfl)) (mvT hZ (own_g hw (i := 32) rfl)) (by decide) (backOf (W := 0) (own_rmem l Z a0 hw [] (a) T517.heap n0 Z517 F523) hZ (own_g hw (i := 34) rfl) (own_g hw (i := 3) rfl) (by decide) (by decide)) q530a q530c (g := (mkF m 240 #[iv mk, iv xi, iv yi, .val (.long d0), .second, .val (.long d1), .second, .val (.long d2), .second, rv da, rv a, .val (.int 1), .val (.int 2), .val (.int 2), .val (.int 1), .val (.int 2), .val (.int 1)] [(.ref a)])) rfl (by rw [hml]; rfl) (Steps.refl _) (argsL := []) (rest := []) (lenOf own_pd___Z rfl) rfl (by show 2 * 0 + _ ≤ _; exact Nat.le_of_eq rfl) (hb hby at_240) (fun _ _ => ⟨rfl, rfl, (by decide : 5 + 0 ≤ _), (by decide : 18 + 0 ≤ _)⟩)
        dsimp only [Pt.U, Pt.locs, Pt.cells, Pt.slots] at X530 l530 y530 z530 st530 hQ530
        subst l530 y530 z530
        obtain ⟨rfl, N530q, e530⟩ := hQ530
        have N530 := Fr.app N517 N530q
        refine own_S (mkF m 243 #[iv mk, iv xi, iv yi, .val (.long d0), .second, .val (.long d1), .second, .val (.long d2), .second, rv da, rv a, .val (.int 1), .val (.int 2), .val (.int 2), .val (.int 1), .val (.int 2), .val (.int 1)] [(.int 1)]) (fun _ k => st530.trans k) ?_
        have hc531 : ¬ ((1 : Int32) = (0 : Int32)) := by decide
        refine own_S (mkF m 246 #[iv mk, iv xi, iv yi, .val (.long d0), .second, .val (.long d1), .second, .val (.long d2), .second, rv da, rv a, .val (.int 1), .val (.int 2), .val (.int 2), .val (.int 1), .val (.int 2), .val (.int 1)] []) (fun _ k => XS.ifNo X530.here hx rfl (hb hby at_243) rfl ((if0 _ _).trans (feq hc531).1) k) ?_
        refine own_S (mkF m 247 #[iv mk, iv xi, iv yi, .val (.long d0), .second, .val (.long d1), .second, .val (.long d2), .second, rv da, rv a, .val (.int 1), .val (.int 2), .val (.int 2), .val (.int 1), .val (.int 2), .val (.int 1)] [(.int 1)]) (fun _ k => XS.iconst X530.here hx rfl (hb hby at_246) k) ?_
        refine own_S (mkF m 251 #[iv mk, iv xi, iv yi, .val (.long d0), .second, .val (.long d1), .second, .val (.long d2), .second, rv da, rv a, .val (.int 1), .val (.int 2), .val (.int 2), .val (.int 1), .val (.int 2), .val (.int 1)] [(.int 1)]) (fun _ k => XS.goto X530.here hx rfl (pc0 := 247) (pc' := 251) rfl (hb hby at_247) (by decide) (by decide) k) ?_
        exact own_retN X530 hx hlk (t := .boolean) hret (by simp) (hb hby at_251) (by rw [e530]; exact ⟨rfl, N530, trivial⟩) (by decide) (by decide)
      ·
        obtain ⟨cq532, kq532, q532a, q532b, q532c⟩ := isOf hZ rfl F466
        obtain ⟨_, _, ⟨T532, L532, k532, n532⟩, -, X532, ⟨Lc532, hQ532, l532, y532, z532⟩, st532⟩ := X465.virtualBack hx (y := own_y6) (z := own_y6) hown (mvT hZ (own_g hw (i := 36) rfl)) (mvT hZ (own_g hw (i := 37) rfl)) (notFace_of_selects (args := #[]) (mvT hZ (own_g hw (i := 39) rfl))) (mvT hZ (own_g hw (i := 39) rfl)) (mvT hZ (own_g hw (i := 38) rfl)) (by decide) (backOf (W := 0) (own_rmof1n l Z a0 hw [] (a) (da) (ha) (pa) (oa) (kd) (kh) (kp) (ko) ([(.long d0), (.long d1), (.long d2)]) ([(.int (1 : Int32)), g1, g2]) ([(.int (-1 : Int32)), (.int (0 : Int32)), (.int (-1 : Int32))]) ([(.long o0), (.long (of + (1 : Int64))), (.long o2)]) ((2 : Int32)) ((1 : Int32)) ((of + (1 : Int64))) (d2) (d1) ((of + (1 : Int64))) T465.heap n0 Z465 F466 F467 F468 F469 F470 F471 F472 F476 F477 F478 F479 G_a G_ha G_pa G_oa NE_a_da NE_a_ha NE_a_pa NE_a_oa NE_da_ha NE_da_pa NE_da_oa NE_ha_pa NE_ha_oa NE_pa_oa (by decide) (show (2 : Nat) < 3 from by decide) (show (2 : Nat) < 3 from by decide) rfl (show (1 : Nat) < 3 from by decide) rfl (by decide) (show (1 : Nat) < 3 from by decide) (by decide) rfl rfl rfl hB) hZ (own_g hw (i := 40) rfl) (own_g hw (i := 3) rfl) (by decide) (by decide)) q532a q532c (g := (mkF m 111 #[iv mk, iv xi, iv yi, .val (.long d0), .second, .val (.long d1), .second, .val (.long d2), .second, rv da, rv a, .val (.int 1), .val (.int 2), .unset, .unset, .unset, .unset] [(.int 2), (.ref a)])) rfl (by rw [hml]; rfl) (Steps.refl _) (argsL := [(.int 2)]) (rest := []) (lenOf own_pd__I_V rfl) rfl (by show 2 * 0 + _ ≤ _; exact Nat.le_of_eq rfl) (hb hby at_111) (fun _ _ => ⟨rfl, rfl, (by decide : 5 + 0 ≤ _), (by decide : 18 + 0 ≤ _)⟩)
        dsimp only [Pt.U, Pt.locs, Pt.cells, Pt.slots] at X532 l532 y532 z532 st532 hQ532
        subst l532 y532 z532
        obtain ⟨rfl, N532q, K532q, F533, F534, F535, F536, F537, F538, F539, F540, F541, F542⟩ := hQ532
        have N532 := Fr.app N465 N532q
        refine own_S (mkF m 114 #[iv mk, iv xi, iv yi, .val (.long d0), .second, .val (.long d1), .second, .val (.long d2), .second, rv da, rv a, .val (.int 1), .val (.int 2), .unset, .unset, .unset, .unset] []) (fun _ k => st532.trans k) ?_
        have F543 := F476.keep K532q (ninS (Ne.symm NE_a_da) (ninS NE_da_ha (ninS NE_da_pa (ninS NE_da_oa nin0))))
        have Z532 : n0 ≤ T532.heap.size := Nat.le_trans Z465 K532q.1
        have F544 : own_Ar Z T532.heap ha kh .int [(.int (1 : Int32)), (.int (2 : Int32)), g2] := F540
        have F545 : own_Ar Z T532.heap pa kp .int [(.int (-1 : Int32)), (.int (0 : Int32)), (.int (1 : Int32))] := F541
        have F546 : own_Ar Z T532.heap oa ko .long [(.long o0), (.long (of + (1 : Int64))), (.long ((of + (1 : Int64)) + (1 : Int64)))] := F542
        refine own_S (mkF m 116 #[iv mk, iv xi, iv yi, .val (.long d0), .second, .val (.long d1), .second, .val (.long d2), .second, rv da, rv a, .val (.int 1), .val (.int 2), .unset, .unset, .unset, .unset] [(.ref a)]) (fun _ k => XS.aload X532.here hx rfl (hb hby at_114) rfl rfl k) ?_
        obtain ⟨cq547, kq547, q547a, q547b, q547c⟩ := isOf hZ rfl F533
        obtain ⟨_, _, ⟨T547, L547, k547, n547⟩, -, X547, ⟨Lc547, hQ547, l547, y547, z547⟩, st547⟩ := X532.virtualBack hx (y := own_y2) (z := own_y2) hown (mvT hZ (own_g hw (i := 30) rfl)) (mvT hZ (own_g hw (i := 31) rfl)) (notFace_of_selects (args := #[]) (mvT hZ (own_g hw (i := 33) rfl))) (mvT hZ (own_g hw (i := 33) rfl)) (mvT hZ (own_g hw (i := 32) rfl)) (by decide) (backOf (W := 0) (own_rmne l Z a0 hw [] (a) ((2 : Int32)) T532.heap n0 Z532 F538 (by decide)) hZ (own_g hw (i := 34) rfl) (own_g hw (i := 3) rfl) (by decide) (by decide)) q547a q547c (g := (mkF m 116 #[iv mk, iv xi, iv yi, .val (.long d0), .second, .val (.long d1), .second, .val (.long d2), .second, rv da, rv a, .val (.int 1), .val (.int 2), .unset, .unset, .unset, .unset] [(.ref a)])) rfl (by rw [hml]; rfl) (Steps.refl _) (argsL := []) (rest := []) (lenOf own_pd___Z rfl) rfl (by show 2 * 0 + _ ≤ _; exact Nat.le_of_eq rfl) (hb hby at_116) (fun _ _ => ⟨rfl, rfl, (by decide : 5 + 0 ≤ _), (by decide : 18 + 0 ≤ _)⟩)
        dsimp only [Pt.U, Pt.locs, Pt.cells, Pt.slots] at X547 l547 y547 z547 st547 hQ547
        subst l547 y547 z547
        obtain ⟨rfl, N547q, e547⟩ := hQ547
        have N547 := Fr.app N532 N547q
        refine own_S (mkF m 119 #[iv mk, iv xi, iv yi, .val (.long d0), .second, .val (.long d1), .second, .val (.long d2), .second, rv da, rv a, .val (.int 1), .val (.int 2), .unset, .unset, .unset, .unset] [(.int 0)]) (fun _ k => st547.trans k) ?_
        have hc548 : (0 : Int32) = (0 : Int32) := by decide
        refine own_S (mkF m 124 #[iv mk, iv xi, iv yi, .val (.long d0), .second, .val (.long d1), .second, .val (.long d2), .second, rv da, rv a, .val (.int 1), .val (.int 2), .unset, .unset, .unset, .unset] []) (fun _ k => XS.ifYes X547.here hx rfl (pc0 := 119) (pc' := 124) rfl (hb hby at_119) rfl ((if0 _ _).trans (teq hc548).1) (by decide) (by decide) k) ?_
        refine own_S (mkF m 126 #[iv mk, iv xi, iv yi, .val (.long d0), .second, .val (.long d1), .second, .val (.long d2), .second, rv da, rv a, .val (.int 1), .val (.int 2), .unset, .unset, .unset, .unset] [(.int 1)]) (fun _ k => XS.iload X547.here hx rfl (hb hby at_124) rfl k) ?_
        refine own_S (mkF m 128 #[iv mk, iv xi, iv yi, .val (.long d0), .second, .val (.long d1), .second, .val (.long d2), .second, rv da, rv a, .val (.int 1), .val (.int 2), .unset, .unset, .unset, .unset] [(.int 2), (.int 1)]) (fun _ k => XS.iload X547.here hx rfl (hb hby at_126) rfl k) ?_
        have hc549 : ¬ ((1 : Int32) = (2 : Int32)) := by decide
        refine own_S (mkF m 159 #[iv mk, iv xi, iv yi, .val (.long d0), .second, .val (.long d1), .second, .val (.long d2), .second, rv da, rv a, .val (.int 1), .val (.int 2), .unset, .unset, .unset, .unset] []) (fun _ k => XS.icmpYes X547.here hx rfl (pc0 := 128) (pc' := 159) rfl (hb hby at_128) rfl (feq hc549).2 (by decide) (by decide) k) ?_
        refine own_S (mkF m 161 #[iv mk, iv xi, iv yi, .val (.long d0), .second, .val (.long d1), .second, .val (.long d2), .second, rv da, rv a, .val (.int 1), .val (.int 2), .unset, .unset, .unset, .unset] [(.ref da)]) (fun _ k => XS.aload X547.here hx rfl (hb hby at_159) rfl rfl k) ?_
        refine own_S (mkF m 163 #[iv mk, iv xi, iv yi, .val (.long d0), .second, .val (.long d1), .second, .val (.long d2), .second, rv da, rv a, .val (.int 1), .val (.int 2), .unset, .unset, .unset, .unset] [(.int 1), (.ref da)]) (fun _ k => XS.iload X547.here hx rfl (hb hby at_161) rfl k) ?_
        refine own_S (mkF m 164 #[iv mk, iv xi, iv yi, .val (.long d0), .second, .val (.long d1), .second, .val (.long d2), .second, rv da, rv a, .val (.int 1), .val (.int 2), .unset, .unset, .unset, .unset] [(.long d1)]) (fun _ k => own_ldJ X547 hx hZ e547 F543 (by decide) rfl (g := (mkF m 163 #[iv mk, iv xi, iv yi, .val (.long d0), .second, .val (.long d1), .second, .val (.long d2), .second, rv da, rv a, .val (.int 1), .val (.int 2), .unset, .unset, .unset, .unset] [(.int 1), (.ref da)])) rfl rfl (hb hby at_163) _ k) ?_
        refine own_S (mkF m 166 #[iv mk, iv xi, iv yi, .val (.long d0), .second, .val (.long d1), .second, .val (.long d2), .second, rv da, rv a, .val (.int 1), .val (.int 2), .unset, .unset, .unset, .unset] [(.ref da), (.long d1)]) (fun _ k => XS.aload X547.here hx rfl (hb hby at_164) rfl rfl k) ?_
        refine own_S (mkF m 168 #[iv mk, iv xi, iv yi, .val (.long d0), .second, .val (.long d1), .second, .val (.long d2), .second, rv da, rv a, .val (.int 1), .val (.int 2), .unset, .unset, .unset, .unset] [(.int 2), (.ref da), (.long d1)]) (fun _ k => XS.iload X547.here hx rfl (hb hby at_166) rfl k) ?_
        refine own_S (mkF m 169 #[iv mk, iv xi, iv yi, .val (.long d0), .second, .val (.long d1), .second, .val (.long d2), .second, rv da, rv a, .val (.int 1), .val (.int 2), .unset, .unset, .unset, .unset] [(.long d2), (.long d1)]) (fun _ k => own_ldJ X547 hx hZ e547 F543 (by decide) rfl (g := (mkF m 168 #[iv mk, iv xi, iv yi, .val (.long d0), .second, .val (.long d1), .second, .val (.long d2), .second, rv da, rv a, .val (.int 1), .val (.int 2), .unset, .unset, .unset, .unset] [(.int 2), (.ref da), (.long d1)])) rfl rfl (hb hby at_168) _ k) ?_
        refine own_S (mkF m 170 #[iv mk, iv xi, iv yi, .val (.long d0), .second, .val (.long d1), .second, .val (.long d2), .second, rv da, rv a, .val (.int 1), .val (.int 2), .unset, .unset, .unset, .unset] [(.int (lcmpW d1 d2))]) (fun _ k => XS.lcmp X547.here hx rfl (hb hby at_169) rfl k) ?_
        have hc550 : d1 < d2 := (own_lt hof hB)
        refine own_S (mkF m 173 #[iv mk, iv xi, iv yi, .val (.long d0), .second, .val (.long d1), .second, .val (.long d2), .second, rv da, rv a, .val (.int 1), .val (.int 2), .unset, .unset, .unset, .unset] []) (fun _ k => XS.ifNo X547.here hx rfl (hb hby at_170) rfl ((if0 _ _).trans (tlt ((lw_lt d1 d2).mpr hc550)).2.1) k) ?_
        refine own_S (mkF m 175 #[iv mk, iv xi, iv yi, .val (.long d0), .second, .val (.long d1), .second, .val (.long d2), .second, rv da, rv a, .val (.int 1), .val (.int 2), .unset, .unset, .unset, .unset] [(.int 1)]) (fun _ k => XS.iload X547.here hx rfl (hb hby at_173) rfl k) ?_
        refine own_S (mkF m 180 #[iv mk, iv xi, iv yi, .val (.long d0), .second, .val (.long d1), .second, .val (.long d2), .second, rv da, rv a, .val (.int 1), .val (.int 2), .unset, .unset, .unset, .unset] [(.int 1)]) (fun _ k => XS.goto X547.here hx rfl (pc0 := 175) (pc' := 180) rfl (hb hby at_175) (by decide) (by decide) k) ?_
        refine own_S (mkF m 182 #[iv mk, iv xi, iv yi, .val (.long d0), .second, .val (.long d1), .second, .val (.long d2), .second, rv da, rv a, .val (.int 1), .val (.int 2), .val (.int 1), .unset, .unset, .unset] []) (fun _ k => XS.istore X547.here hx rfl (hb hby at_180) rfl (l' := #[iv mk, iv xi, iv yi, .val (.long d0), .second, .val (.long d1), .second, .val (.long d2), .second, rv da, rv a, .val (.int 1), .val (.int 2), .val (.int 1), .unset, .unset, .unset]) rfl k) ?_
        refine own_S (mkF m 184 #[iv mk, iv xi, iv yi, .val (.long d0), .second, .val (.long d1), .second, .val (.long d2), .second, rv da, rv a, .val (.int 1), .val (.int 2), .val (.int 1), .unset, .unset, .unset] [(.int 1)]) (fun _ k => XS.iload X547.here hx rfl (hb hby at_182) rfl k) ?_
        refine own_S (mkF m 186 #[iv mk, iv xi, iv yi, .val (.long d0), .second, .val (.long d1), .second, .val (.long d2), .second, rv da, rv a, .val (.int 1), .val (.int 2), .val (.int 1), .unset, .unset, .unset] [(.int 1), (.int 1)]) (fun _ k => XS.iload X547.here hx rfl (hb hby at_184) rfl k) ?_
        have hc551 : (1 : Int32) = (1 : Int32) := by decide
        refine own_S (mkF m 189 #[iv mk, iv xi, iv yi, .val (.long d0), .second, .val (.long d1), .second, .val (.long d2), .second, rv da, rv a, .val (.int 1), .val (.int 2), .val (.int 1), .unset, .unset, .unset] []) (fun _ k => XS.icmpNo X547.here hx rfl (hb hby at_186) rfl (teq hc551).2 k) ?_
        refine own_S (mkF m 191 #[iv mk, iv xi, iv yi, .val (.long d0), .second, .val (.long d1), .second, .val (.long d2), .second, rv da, rv a, .val (.int 1), .val (.int 2), .val (.int 1), .unset, .unset, .unset] [(.int 2)]) (fun _ k => XS.iload X547.here hx rfl (hb hby at_189) rfl k) ?_
        refine own_S (mkF m 196 #[iv mk, iv xi, iv yi, .val (.long d0), .second, .val (.long d1), .second, .val (.long d2), .second, rv da, rv a, .val (.int 1), .val (.int 2), .val (.int 1), .unset, .unset, .unset] [(.int 2)]) (fun _ k => XS.goto X547.here hx rfl (pc0 := 191) (pc' := 196) rfl (hb hby at_191) (by decide) (by decide) k) ?_
        refine own_S (mkF m 198 #[iv mk, iv xi, iv yi, .val (.long d0), .second, .val (.long d1), .second, .val (.long d2), .second, rv da, rv a, .val (.int 1), .val (.int 2), .val (.int 1), .val (.int 2), .unset, .unset] []) (fun _ k => XS.istore X547.here hx rfl (hb hby at_196) rfl (l' := #[iv mk, iv xi, iv yi, .val (.long d0), .second, .val (.long d1), .second, .val (.long d2), .second, rv da, rv a, .val (.int 1), .val (.int 2), .val (.int 1), .val (.int 2), .unset, .unset]) rfl k) ?_
        refine own_S (mkF m 200 #[iv mk, iv xi, iv yi, .val (.long d0), .second, .val (.long d1), .second, .val (.long d2), .second, rv da, rv a, .val (.int 1), .val (.int 2), .val (.int 1), .val (.int 2), .unset, .unset] [(.ref a)]) (fun _ k => XS.aload X547.here hx rfl (hb hby at_198) rfl rfl k) ?_
        obtain ⟨cq552, kq552, q552a, q552b, q552c⟩ := isOf hZ e547 F533
        obtain ⟨_, _, ⟨T552, L552, k552, n552⟩, -, X552, ⟨Lc552, hQ552, l552, y552, z552⟩, st552⟩ := X547.virtualBack hx (y := own_y9) (z := own_y9) hown (mvT hZ (own_g hw (i := 55) rfl)) (mvT hZ (own_g hw (i := 56) rfl)) (notFace_of_selects (args := #[]) (mvT hZ (own_g hw (i := 58) rfl))) (mvT hZ (own_g hw (i := 58) rfl)) (mvT hZ (own_g hw (i := 57) rfl)) (by decide) (backOf (W := 0) (own_rmpo2 l Z a0 hw [] (a) (da) (ha) (pa) (oa) (kd) (kh) (kp) (ko) ([(.long d0), (.long d1), (.long d2)]) ([(.int (1 : Int32)), (.int (2 : Int32)), g2]) ([(.int (-1 : Int32)), (.int (0 : Int32)), (.int (1 : Int32))]) ([(.long o0), (.long (of + (1 : Int64))), (.long ((of + (1 : Int64)) + (1 : Int64)))]) (((of + (1 : Int64)) + (1 : Int64))) ((1 : Int32)) ((2 : Int32)) T532.heap n0 Z532 F533 F534 F535 F536 F537 F538 F539 F543 F544 F545 F546 G_a G_ha G_pa NE_a_da NE_a_ha NE_a_pa NE_a_oa NE_da_ha NE_da_pa NE_da_oa NE_ha_pa NE_ha_oa NE_pa_oa rfl (by decide) (show (1 : Nat) < 3 from by decide) rfl (by decide) (show (2 : Nat) < 3 from by decide)) hZ (own_g hw (i := 59) rfl) (own_g hw (i := 3) rfl) (by decide) (by decide)) q552a q552c (g := (mkF m 200 #[iv mk, iv xi, iv yi, .val (.long d0), .second, .val (.long d1), .second, .val (.long d2), .second, rv da, rv a, .val (.int 1), .val (.int 2), .val (.int 1), .val (.int 2), .unset, .unset] [(.ref a)])) rfl (by rw [hml]; rfl) (Steps.refl _) (argsL := []) (rest := []) (lenOf own_pd___I rfl) rfl (by show 2 * 0 + _ ≤ _; exact Nat.le_of_eq rfl) (hb hby at_200) (fun _ _ => ⟨rfl, e547, (by decide : 5 + 0 ≤ _), (by decide : 18 + 0 ≤ _)⟩)
        dsimp only [Pt.U, Pt.locs, Pt.cells, Pt.slots] at X552 l552 y552 z552 st552 hQ552
        subst l552 y552 z552
        obtain ⟨rfl, N552q, K552q, F553, F554, F555, F556, F557, F558, F559, F560, F561⟩ := hQ552
        have N552 := Fr.app N547 N552q
        refine own_S (mkF m 203 #[iv mk, iv xi, iv yi, .val (.long d0), .second, .val (.long d1), .second, .val (.long d2), .second, rv da, rv a, .val (.int 1), .val (.int 2), .val (.int 1), .val (.int 2), .unset, .unset] [(.int 1)]) (fun _ k => st552.trans k) ?_
        have F562 := F543.keep K552q (ninS (Ne.symm NE_a_da) (ninS NE_da_ha (ninS NE_da_pa nin0)))
        have F563 := F546.keep K552q (ninS (Ne.symm NE_a_oa) (ninS (Ne.symm NE_ha_oa) (ninS (Ne.symm NE_pa_oa) nin0)))
        have Z552 : n0 ≤ T552.heap.size := Nat.le_trans Z532 K552q.1
        have F564 : own_Ar Z T552.heap ha kh .int [(.int (2 : Int32)), (.int (2 : Int32)), g2] := F560
        have F565 : own_Ar Z T552.heap pa kp .int [(.int (-1 : Int32)), (.int (-1 : Int32)), (.int (0 : Int32))] := F561
        refine own_S (mkF m 205 #[iv mk, iv xi, iv yi, .val (.long d0), .second, .val (.long d1), .second, .val (.long d2), .second, rv da, rv a, .val (.int 1), .val (.int 2), .val (.int 1), .val (.int 2), .val (.int 1), .unset] []) (fun _ k => XS.istore X552.here hx rfl (hb hby at_203) rfl (l' := #[iv mk, iv xi, iv yi, .val (.long d0), .second, .val (.long d1), .second, .val (.long d2), .second, rv da, rv a, .val (.int 1), .val (.int 2), .val (.int 1), .val (.int 2), .val (.int 1), .unset]) rfl k) ?_
        refine own_S (mkF m 207 #[iv mk, iv xi, iv yi, .val (.long d0), .second, .val (.long d1), .second, .val (.long d2), .second, rv da, rv a, .val (.int 1), .val (.int 2), .val (.int 1), .val (.int 2), .val (.int 1), .unset] [(.int 1)]) (fun _ k => XS.iload X552.here hx rfl (hb hby at_205) rfl k) ?_
        refine own_S (mkF m 209 #[iv mk, iv xi, iv yi, .val (.long d0), .second, .val (.long d1), .second, .val (.long d2), .second, rv da, rv a, .val (.int 1), .val (.int 2), .val (.int 1), .val (.int 2), .val (.int 1), .unset] [(.int 1), (.int 1)]) (fun _ k => XS.iload X552.here hx rfl (hb hby at_207) rfl k) ?_
        have hc566 : (1 : Int32) = (1 : Int32) := by decide
        refine own_S (mkF m 214 #[iv mk, iv xi, iv yi, .val (.long d0), .second, .val (.long d1), .second, .val (.long d2), .second, rv da, rv a, .val (.int 1), .val (.int 2), .val (.int 1), .val (.int 2), .val (.int 1), .unset] []) (fun _ k => XS.icmpYes X552.here hx rfl (pc0 := 209) (pc' := 214) rfl (hb hby at_209) rfl (teq hc566).1 (by decide) (by decide) k) ?_
        refine own_S (mkF m 216 #[iv mk, iv xi, iv yi, .val (.long d0), .second, .val (.long d1), .second, .val (.long d2), .second, rv da, rv a, .val (.int 1), .val (.int 2), .val (.int 1), .val (.int 2), .val (.int 1), .unset] [(.ref a)]) (fun _ k => XS.aload X552.here hx rfl (hb hby at_214) rfl rfl k) ?_
        obtain ⟨cq567, kq567, q567a, q567b, q567c⟩ := isOf hZ rfl F553
        obtain ⟨_, _, ⟨T567, L567, k567, n567⟩, -, X567, ⟨Lc567, hQ567, l567, y567, z567⟩, st567⟩ := X552.virtualBack hx (y := own_y2) (z := own_y2) hown (mvT hZ (own_g hw (i := 30) rfl)) (mvT hZ (own_g hw (i := 31) rfl)) (notFace_of_selects (args := #[]) (mvT hZ (own_g hw (i := 33) rfl))) (mvT hZ (own_g hw (i := 33) rfl)) (mvT hZ (own_g hw (i := 32) rfl)) (by decide) (backOf (W := 0) (own_rmne l Z a0 hw [] (a) ((1 : Int32)) T552.heap n0 Z552 F558 (by decide)) hZ (own_g hw (i := 34) rfl) (own_g hw (i := 3) rfl) (by decide) (by decide)) q567a q567c (g := (mkF m 216 #[iv mk, iv xi, iv yi, .val (.long d0), .second, .val (.long d1), .second, .val (.long d2), .second, rv da, rv a, .val (.int 1), .val (.int 2), .val (.int 1), .val (.int 2), .val (.int 1), .unset] [(.ref a)])) rfl (by rw [hml]; rfl) (Steps.refl _) (argsL := []) (rest := []) (lenOf own_pd___Z rfl) rfl (by show 2 * 0 + _ ≤ _; exact Nat.le_of_eq rfl) (hb hby at_216) (fun _ _ => ⟨rfl, rfl, (by decide : 5 + 0 ≤ _), (by decide : 18 + 0 ≤ _)⟩)
        dsimp only [Pt.U, Pt.locs, Pt.cells, Pt.slots] at X567 l567 y567 z567 st567 hQ567
        subst l567 y567 z567
        obtain ⟨rfl, N567q, e567⟩ := hQ567
        have N567 := Fr.app N552 N567q
        refine own_S (mkF m 219 #[iv mk, iv xi, iv yi, .val (.long d0), .second, .val (.long d1), .second, .val (.long d2), .second, rv da, rv a, .val (.int 1), .val (.int 2), .val (.int 1), .val (.int 2), .val (.int 1), .unset] [(.int 0)]) (fun _ k => st567.trans k) ?_
        have hc568 : (0 : Int32) = (0 : Int32) := by decide
        refine own_S (mkF m 224 #[iv mk, iv xi, iv yi, .val (.long d0), .second, .val (.long d1), .second, .val (.long d2), .second, rv da, rv a, .val (.int 1), .val (.int 2), .val (.int 1), .val (.int 2), .val (.int 1), .unset] []) (fun _ k => XS.ifYes X567.here hx rfl (pc0 := 219) (pc' := 224) rfl (hb hby at_219) rfl ((if0 _ _).trans (teq hc568).1) (by decide) (by decide) k) ?_
        refine own_S (mkF m 226 #[iv mk, iv xi, iv yi, .val (.long d0), .second, .val (.long d1), .second, .val (.long d2), .second, rv da, rv a, .val (.int 1), .val (.int 2), .val (.int 1), .val (.int 2), .val (.int 1), .unset] [(.ref a)]) (fun _ k => XS.aload X567.here hx rfl (hb hby at_224) rfl rfl k) ?_
        obtain ⟨cq569, kq569, q569a, q569b, q569c⟩ := isOf hZ e567 F553
        obtain ⟨_, _, ⟨T569, L569, k569, n569⟩, -, X569, ⟨Lc569, hQ569, l569, y569, z569⟩, st569⟩ := X567.virtualBack hx (y := own_y9) (z := own_y9) hown (mvT hZ (own_g hw (i := 55) rfl)) (mvT hZ (own_g hw (i := 56) rfl)) (notFace_of_selects (args := #[]) (mvT hZ (own_g hw (i := 58) rfl))) (mvT hZ (own_g hw (i := 58) rfl)) (mvT hZ (own_g hw (i := 57) rfl)) (by decide) (backOf (W := 0) (own_rmpo1 l Z a0 hw [] (a) (da) (ha) (pa) (oa) (kd) (kh) (kp) (ko) ([(.long d0), (.long d1), (.long d2)]) ([(.int (2 : Int32)), (.int (2 : Int32)), g2]) ([(.int (-1 : Int32)), (.int (-1 : Int32)), (.int (0 : Int32))]) ([(.long o0), (.long (of + (1 : Int64))), (.long ((of + (1 : Int64)) + (1 : Int64)))]) (((of + (1 : Int64)) + (1 : Int64))) ((2 : Int32)) T552.heap n0 Z552 F553 F554 F555 F556 F557 F558 F559 F562 F564 F565 F563 G_a G_ha G_pa NE_a_da NE_a_ha NE_a_pa NE_a_oa NE_da_ha NE_da_pa NE_da_oa NE_ha_pa NE_ha_oa NE_pa_oa rfl (by decide) (show (2 : Nat) < 3 from by decide)) hZ (own_g hw (i := 59) rfl) (own_g hw (i := 3) rfl) (by decide) (by decide)) q569a q569c (g := (mkF m 226 #[iv mk, iv xi, iv yi, .val (.long d0), .second, .val (.long d1), .second, .val (.long d2), .second, rv da, rv a, .val (.int 1), .val (.int 2), .val (.int 1), .val (.int 2), .val (.int 1), .unset] [(.ref a)])) rfl (by rw [hml]; rfl) (Steps.refl _) (argsL := []) (rest := []) (lenOf own_pd___I rfl) rfl (by show 2 * 0 + _ ≤ _; exact Nat.le_of_eq rfl) (hb hby at_226) (fun _ _ => ⟨rfl, e567, (by decide : 5 + 0 ≤ _), (by decide : 18 + 0 ≤ _)⟩)
        dsimp only [Pt.U, Pt.locs, Pt.cells, Pt.slots] at X569 l569 y569 z569 st569 hQ569
        subst l569 y569 z569
        obtain ⟨rfl, N569q, K569q, F570, F571, F572, F573, F574, F575, F576, F577, F578⟩ := hQ569
        have N569 := Fr.app N567 N569q
        refine own_S (mkF m 229 #[iv mk, iv xi, iv yi, .val (.long d0), .second, .val (.long d1), .second, .val (.long d2), .second, rv da, rv a, .val (.int 1), .val (.int 2), .val (.int 1), .val (.int 2), .val (.int 1), .unset] [(.int 2)]) (fun _ k => st569.trans k) ?_
        have F579 := F562.keep K569q (ninS (Ne.symm NE_a_da) (ninS NE_da_ha (ninS NE_da_pa nin0)))
        have F580 := F563.keep K569q (ninS (Ne.symm NE_a_oa) (ninS (Ne.symm NE_ha_oa) (ninS (Ne.symm NE_pa_oa) nin0)))
        have Z569 : n0 ≤ T569.heap.size := Nat.le_trans Z552 K569q.1
        refine own_S (mkF m 231 #[iv mk, iv xi, iv yi, .val (.long d0), .second, .val (.long d1), .second, .val (.long d2), .second, rv da, rv a, .val (.int 1), .val (.int 2), .val (.int 1), .val (.int 2), .val (.int 1), .val (.int 2)] []) (fun _ k => XS.istore X569.here hx rfl (hb hby at_229) rfl (l' := #[iv mk, iv xi, iv yi, .val (.long d0), .second, .val (.long d1), .second, .val (.long d2), .second, rv da, rv a, .val (.int 1), .val (.int 2), .val (.int 1), .val (.int 2), .val (.int 1), .val (.int 2)]) rfl k) ?_
        refine own_S (mkF m 233 #[iv mk, iv xi, iv yi, .val (.long d0), .second, .val (.long d1), .second, .val (.long d2), .second, rv da, rv a, .val (.int 1), .val (.int 2), .val (.int 1), .val (.int 2), .val (.int 1), .val (.int 2)] [(.int 2)]) (fun _ k => XS.iload X569.here hx rfl (hb hby at_231) rfl k) ?_
        refine own_S (mkF m 235 #[iv mk, iv xi, iv yi, .val (.long d0), .second, .val (.long d1), .second, .val (.long d2), .second, rv da, rv a, .val (.int 1), .val (.int 2), .val (.int 1), .val (.int 2), .val (.int 1), .val (.int 2)] [(.int 2), (.int 2)]) (fun _ k => XS.iload X569.here hx rfl (hb hby at_233) rfl k) ?_
        have hc581 : (2 : Int32) = (2 : Int32) := by decide
        refine own_S (mkF m 238 #[iv mk, iv xi, iv yi, .val (.long d0), .second, .val (.long d1), .second, .val (.long d2), .second, rv da, rv a, .val (.int 1), .val (.int 2), .val (.int 1), .val (.int 2), .val (.int 1), .val (.int 2)] []) (fun _ k => XS.icmpNo X569.here hx rfl (hb hby at_235) rfl (teq hc581).2 k) ?_
        refine own_S (mkF m 240 #[iv mk, iv xi, iv yi, .val (.long d0), .second, .val (.long d1), .second, .val (.long d2), .second, rv da, rv a, .val (.int 1), .val (.int 2), .val (.int 1), .val (.int 2), .val (.int 1), .val (.int 2)] [(.ref a)]) (fun _ k => XS.aload X569.here hx rfl (hb hby at_238) rfl rfl k) ?_
        obtain ⟨cq582, kq582, q582a, q582b, q582c⟩ := isOf hZ rfl F570
        obtain ⟨_, _, ⟨T582, L582, k582, n582⟩, -, X582, ⟨Lc582, hQ582, l582, y582, z582⟩, st582⟩ := X569.virtualBack hx (y := own_y2) (z := own_y2) hown (mvT hZ (own_g hw (i := 30) rfl)) (mvT hZ (own_g hw (i := 31) rfl)) (notFace_of_selects (args := #[]) (mvT hZ (own_g hw (i := 33) rfl))) (mvT hZ (own_g hw (i := 33) rfl)) (mvT hZ (own_g hw (i := 32) rfl)) (by decide) (backOf (W := 0) (own_rmem l Z a0 hw [] (a) T569.heap n0 Z569 F575) hZ (own_g hw (i := 34) rfl) (own_g hw (i := 3) rfl) (by decide) (by decide)) q582a q582c (g := (mkF m 240 #[iv mk, iv xi, iv yi, .val (.long d0), .second, .val (.long d1), .second, .val (.long d2), .second, rv da, rv a, .val (.int 1), .val (.int 2), .val (.int 1), .val (.int 2), .val (.int 1), .val (.int 2)] [(.ref a)])) rfl (by rw [hml]; rfl) (Steps.refl _) (argsL := []) (rest := []) (lenOf own_pd___Z rfl) rfl (by show 2 * 0 + _ ≤ _; exact Nat.le_of_eq rfl) (hb hby at_240) (fun _ _ => ⟨rfl, rfl, (by decide : 5 + 0 ≤ _), (by decide : 18 + 0 ≤ _)⟩)
        dsimp only [Pt.U, Pt.locs, Pt.cells, Pt.slots] at X582 l582 y582 z582 st582 hQ582
        subst l582 y582 z582
        obtain ⟨rfl, N582q, e582⟩ := hQ582
        have N582 := Fr.app N569 N582q
        refine own_S (mkF m 243 #[iv mk, iv xi, iv yi, .val (.long d0), .second, .val (.long d1), .second, .val (.long d2), .second, rv da, rv a, .val (.int 1), .val (.int 2), .val (.int 1), .val (.int 2), .val (.int 1), .val (.int 2)] [(.int 1)]) (fun _ k => st582.trans k) ?_
        have hc583 : ¬ ((1 : Int32) = (0 : Int32)) := by decide
        refine own_S (mkF m 246 #[iv mk, iv xi, iv yi, .val (.long d0), .second, .val (.long d1), .second, .val (.long d2), .second, rv da, rv a, .val (.int 1), .val (.int 2), .val (.int 1), .val (.int 2), .val (.int 1), .val (.int 2)] []) (fun _ k => XS.ifNo X582.here hx rfl (hb hby at_243) rfl ((if0 _ _).trans (feq hc583).1) k) ?_
        refine own_S (mkF m 247 #[iv mk, iv xi, iv yi, .val (.long d0), .second, .val (.long d1), .second, .val (.long d2), .second, rv da, rv a, .val (.int 1), .val (.int 2), .val (.int 1), .val (.int 2), .val (.int 1), .val (.int 2)] [(.int 1)]) (fun _ k => XS.iconst X582.here hx rfl (hb hby at_246) k) ?_
        refine own_S (mkF m 251 #[iv mk, iv xi, iv yi, .val (.long d0), .second, .val (.long d1), .second, .val (.long d2), .second, rv da, rv a, .val (.int 1), .val (.int 2), .val (.int 1), .val (.int 2), .val (.int 1), .val (.int 2)] [(.int 1)]) (fun _ k => XS.goto X582.here hx rfl (pc0 := 247) (pc' := 251) rfl (hb hby at_247) (by decide) (by decide) k) ?_
        exact own_retN X582 hx hlk (t := .boolean) hret (by simp) (hb hby at_251) (by rw [e582]; exact ⟨rfl, N582, trivial⟩) (by decide) (by decide)
  · -- av = 2
    subst q5_2
    rcases o_b with q584_0 | q585_1 | q586_2
    · -- bv = 0
      subst q584_0
      obtain ⟨cq587, kq587, q587a, q587b, q587c⟩ := isOf hZ e1 P0
      obtain ⟨_, _, ⟨T587, L587, k587, n587⟩, -, X587, ⟨Lc587, hQ587, l587, y587, z587⟩, st587⟩ := X1.virtualBack hx (y := own_y6) (z := own_y6) hown (mvT hZ (own_g hw (i := 36) rfl)) (mvT hZ (own_g hw (i := 37) rfl)) (notFace_of_selects (args := #[]) (mvT hZ (own_g hw (i := 39) rfl))) (mvT hZ (own_g hw (i := 39) rfl)) (mvT hZ (own_g hw (i := 38) rfl)) (by decide) (backOf (W := 0) (own_rmofA l Z a0 hw [] (a) (da) (ha) (pa) (oa) (kd) (kh) (kp) (ko) ([(.long d0), (.long d1), (.long d2)]) ([g0, g1, g2]) ([(.int (-1 : Int32)), (.int (-1 : Int32)), (.int (-1 : Int32))]) ([(.long o0), (.long o1), (.long o2)]) ((2 : Int32)) (of) hh n0 Z0 P0 P1 P2 P3 P4 P5 P6 P7 P8 P9 P10 G_a G_ha G_pa G_oa NE_a_da NE_a_ha NE_a_pa NE_a_oa NE_da_ha NE_da_pa NE_da_oa NE_ha_pa NE_ha_oa NE_pa_oa (by decide) (show (2 : Nat) < 3 from by decide) (show (2 : Nat) < 3 from by decide) rfl (show (0 : Nat) < 3 from by decide)) hZ (own_g hw (i := 40) rfl) (own_g hw (i := 3) rfl) (by decide) (by decide)) q587a q587c (g := (mkF m 104 #[iv mk, iv xi, iv yi, .val (.long d0), .second, .val (.long d1), .second, .val (.long d2), .second, rv da, rv a, .val (.int 2), .val (.int 0), .unset, .unset, .unset, .unset] [(.int 2), (.ref a)])) rfl (by rw [hml]; rfl) (Steps.refl _) (argsL := [(.int 2)]) (rest := []) (lenOf own_pd__I_V rfl) rfl (by show 2 * 0 + _ ≤ _; exact Nat.le_of_eq rfl) (hb hby at_104) (fun _ _ => ⟨rfl, e1, (by decide : 5 + 0 ≤ _), (by decide : 18 + 0 ≤ _)⟩)
      dsimp only [Pt.U, Pt.locs, Pt.cells, Pt.slots] at X587 l587 y587 z587 st587 hQ587
      subst l587 y587 z587
      obtain ⟨rfl, N587q, K587q, F588, F589, F590, F591, F592, F593, F594, F595, F596, F597⟩ := hQ587
      have N587 := Fr.app N1 N587q
      refine own_S (mkF m 107 #[iv mk, iv xi, iv yi, .val (.long d0), .second, .val (.long d1), .second, .val (.long d2), .second, rv da, rv a, .val (.int 2), .val (.int 0), .unset, .unset, .unset, .unset] []) (fun _ k => st587.trans k) ?_
      have F598 := P7.keep K587q (ninS (Ne.symm NE_a_da) (ninS NE_da_ha (ninS NE_da_pa (ninS NE_da_oa nin0))))
      have Z587 : n0 ≤ T587.heap.size := Nat.le_trans Z0 K587q.1
      have F599 : own_Ar Z T587.heap ha kh .int [(.int (2 : Int32)), g1, g2] := F595
      have F600 : own_Ar Z T587.heap pa kp .int [(.int (-1 : Int32)), (.int (-1 : Int32)), (.int (0 : Int32))] := F596
      have F601 : own_Ar Z T587.heap oa ko .long [(.long o0), (.long o1), (.long (of + (1 : Int64)))] := F597
      refine own_S (mkF m 109 #[iv mk, iv xi, iv yi, .val (.long d0), .second, .val (.long d1), .second, .val (.long d2), .second, rv da, rv a, .val (.int 2), .val (.int 0), .unset, .unset, .unset, .unset] [(.ref a)]) (fun _ k => XS.aload X587.here hx rfl (hb hby at_107) rfl rfl k) ?_
      refine own_S (mkF m 111 #[iv mk, iv xi, iv yi, .val (.long d0), .second, .val (.long d1), .second, .val (.long d2), .second, rv da, rv a, .val (.int 2), .val (.int 0), .unset, .unset, .unset, .unset] [(.int 0), (.ref a)]) (fun _ k => XS.iload X587.here hx rfl (hb hby at_109) rfl k) ?_
      by_cases hB : (d0 < d2 ∨ (d0 = d2 ∧ (of + (1 : Int64)) < ((of + (1 : Int64)) + (1 : Int64))))
      ·
        obtain ⟨cq602, kq602, q602a, q602b, q602c⟩ := isOf hZ rfl F588
        obtain ⟨_, _, ⟨T602, L602, k602, n602⟩, -, X602, ⟨Lc602, hQ602, l602, y602, z602⟩, st602⟩ := X587.virtualBack hx (y := own_y6) (z := own_y6) hown (mvT hZ (own_g hw (i := 36) rfl)) (mvT hZ (own_g hw (i := 37) rfl)) (notFace_of_selects (args := #[]) (mvT hZ (own_g hw (i := 39) rfl))) (mvT hZ (own_g hw (i := 39) rfl)) (mvT hZ (own_g hw (i := 38) rfl)) (by decide) (backOf (W := 0) (own_rmof1m l Z a0 hw [] (a) (da) (ha) (pa) (oa) (kd) (kh) (kp) (ko) ([(.long d0), (.long d1), (.long d2)]) ([(.int (2 : Int32)), g1, g2]) ([(.int (-1 : Int32)), (.int (-1 : Int32)), (.int (0 : Int32))]) ([(.long o0), (.long o1), (.long (of + (1 : Int64)))]) ((0 : Int32)) ((2 : Int32)) ((of + (1 : Int64))) (d0) (d2) ((of + (1 : Int64))) T587.heap n0 Z587 F588 F589 F590 F591 F592 F593 F594 F598 F599 F600 F601 G_a G_ha G_pa G_oa NE_a_da NE_a_ha NE_a_pa NE_a_oa NE_da_ha NE_da_pa NE_da_oa NE_ha_pa NE_ha_oa NE_pa_oa (by decide) (show (0 : Nat) < 3 from by decide) (show (0 : Nat) < 3 from by decide) rfl (show (1 : Nat) < 3 from by decide) rfl (by decide) (show (2 : Nat) < 3 from by decide) (by decide) rfl rfl rfl hB) hZ (own_g hw (i := 40) rfl) (own_g hw (i := 3) rfl) (by decide) (by decide)) q602a q602c (g := (mkF m 111 #[iv mk, iv xi, iv yi, .val (.long d0), .second, .val (.long d1), .second, .val (.long d2), .second, rv da, rv a, .val (.int 2), .val (.int 0), .unset, .unset, .unset, .unset] [(.int 0), (.ref a)])) rfl (by rw [hml]; rfl) (Steps.refl _) (argsL := [(.int 0)]) (rest := []) (lenOf own_pd__I_V rfl) rfl (by show 2 * 0 + _ ≤ _; exact Nat.le_of_eq rfl) (hb hby at_111) (fun _ _ => ⟨rfl, rfl, (by decide : 5 + 0 ≤ _), (by decide : 18 + 0 ≤ _)⟩)
        dsimp only [Pt.U, Pt.locs, Pt.cells, Pt.slots] at X602 l602 y602 z602 st602 hQ602
        subst l602 y602 z602
        obtain ⟨rfl, N602q, K602q, F603, F604, F605, F606, F607, F608, F609, F610, F611, F612⟩ := hQ602
        have N602 := Fr.app N587 N602q
        refine own_S (mkF m 114 #[iv mk, iv xi, iv yi, .val (.long d0), .second, .val (.long d1), .second, .val (.long d2), .second, rv da, rv a, .val (.int 2), .val (.int 0), .unset, .unset, .unset, .unset] []) (fun _ k => st602.trans k) ?_
        have F613 := F598.keep K602q (ninS (Ne.symm NE_a_da) (ninS NE_da_ha (ninS NE_da_pa (ninS NE_da_oa nin0))))
        have Z602 : n0 ≤ T602.heap.size := Nat.le_trans Z587 K602q.1
        have F614 : own_Ar Z T602.heap ha kh .int [(.int (0 : Int32)), (.int (2 : Int32)), g2] := F610
        have F615 : own_Ar Z T602.heap pa kp .int [(.int (0 : Int32)), (.int (-1 : Int32)), (.int (1 : Int32))] := F611
        have F616 : own_Ar Z T602.heap oa ko .long [(.long ((of + (1 : Int64)) + (1 : Int64))), (.long o1), (.long (of + (1 : Int64)))] := F612
        refine own_S (mkF m 116 #[iv mk, iv xi, iv yi, .val (.long d0), .second, .val (.long d1), .second, .val (.long d2), .second, rv da, rv a, .val (.int 2), .val (.int 0), .unset, .unset, .unset, .unset] [(.ref a)]) (fun _ k => XS.aload X602.here hx rfl (hb hby at_114) rfl rfl k) ?_
        obtain ⟨cq617, kq617, q617a, q617b, q617c⟩ := isOf hZ rfl F603
        obtain ⟨_, _, ⟨T617, L617, k617, n617⟩, -, X617, ⟨Lc617, hQ617, l617, y617, z617⟩, st617⟩ := X602.virtualBack hx (y := own_y2) (z := own_y2) hown (mvT hZ (own_g hw (i := 30) rfl)) (mvT hZ (own_g hw (i := 31) rfl)) (notFace_of_selects (args := #[]) (mvT hZ (own_g hw (i := 33) rfl))) (mvT hZ (own_g hw (i := 33) rfl)) (mvT hZ (own_g hw (i := 32) rfl)) (by decide) (backOf (W := 0) (own_rmne l Z a0 hw [] (a) ((2 : Int32)) T602.heap n0 Z602 F608 (by decide)) hZ (own_g hw (i := 34) rfl) (own_g hw (i := 3) rfl) (by decide) (by decide)) q617a q617c (g := (mkF m 116 #[iv mk, iv xi, iv yi, .val (.long d0), .second, .val (.long d1), .second, .val (.long d2), .second, rv da, rv a, .val (.int 2), .val (.int 0), .unset, .unset, .unset, .unset] [(.ref a)])) rfl (by rw [hml]; rfl) (Steps.refl _) (argsL := []) (rest := []) (lenOf own_pd___Z rfl) rfl (by show 2 * 0 + _ ≤ _; exact Nat.le_of_eq rfl) (hb hby at_116) (fun _ _ => ⟨rfl, rfl, (by decide : 5 + 0 ≤ _), (by decide : 18 + 0 ≤ _)⟩)
        dsimp only [Pt.U, Pt.locs, Pt.cells, Pt.slots] at X617 l617 y617 z617 st617 hQ617
        subst l617 y617 z617
        obtain ⟨rfl, N617q, e617⟩ := hQ617
        have N617 := Fr.app N602 N617q
        refine own_S (mkF m 119 #[iv mk, iv xi, iv yi, .val (.long d0), .second, .val (.long d1), .second, .val (.long d2), .second, rv da, rv a, .val (.int 2), .val (.int 0), .unset, .unset, .unset, .unset] [(.int 0)]) (fun _ k => st617.trans k) ?_
        have hc618 : (0 : Int32) = (0 : Int32) := by decide
        refine own_S (mkF m 124 #[iv mk, iv xi, iv yi, .val (.long d0), .second, .val (.long d1), .second, .val (.long d2), .second, rv da, rv a, .val (.int 2), .val (.int 0), .unset, .unset, .unset, .unset] []) (fun _ k => XS.ifYes X617.here hx rfl (pc0 := 119) (pc' := 124) rfl (hb hby at_119) rfl ((if0 _ _).trans (teq hc618).1) (by decide) (by decide) k) ?_
        refine own_S (mkF m 126 #[iv mk, iv xi, iv yi, .val (.long d0), .second, .val (.long d1), .second, .val (.long d2), .second, rv da, rv a, .val (.int 2), .val (.int 0), .unset, .unset, .unset, .unset] [(.int 2)]) (fun _ k => XS.iload X617.here hx rfl (hb hby at_124) rfl k) ?_
        refine own_S (mkF m 128 #[iv mk, iv xi, iv yi, .val (.long d0), .second, .val (.long d1), .second, .val (.long d2), .second, rv da, rv a, .val (.int 2), .val (.int 0), .unset, .unset, .unset, .unset] [(.int 0), (.int 2)]) (fun _ k => XS.iload X617.here hx rfl (hb hby at_126) rfl k) ?_
        have hc619 : ¬ ((2 : Int32) = (0 : Int32)) := by decide
        refine own_S (mkF m 159 #[iv mk, iv xi, iv yi, .val (.long d0), .second, .val (.long d1), .second, .val (.long d2), .second, rv da, rv a, .val (.int 2), .val (.int 0), .unset, .unset, .unset, .unset] []) (fun _ k => XS.icmpYes X617.here hx rfl (pc0 := 128) (pc' := 159) rfl (hb hby at_128) rfl (feq hc619).2 (by decide) (by decide) k) ?_
        refine own_S (mkF m 161 #[iv mk, iv xi, iv yi, .val (.long d0), .second, .val (.long d1), .second, .val (.long d2), .second, rv da, rv a, .val (.int 2), .val (.int 0), .unset, .unset, .unset, .unset] [(.ref da)]) (fun _ k => XS.aload X617.here hx rfl (hb hby at_159) rfl rfl k) ?_
        refine own_S (mkF m 163 #[iv mk, iv xi, iv yi, .val (.long d0), .second, .val (.long d1), .second, .val (.long d2), .second, rv da, rv a, .val (.int 2), .val (.int 0), .unset, .unset, .unset, .unset] [(.int 2), (.ref da)]) (fun _ k => XS.iload X617.here hx rfl (hb hby at_161) rfl k) ?_
        refine own_S (mkF m 164 #[iv mk, iv xi, iv yi, .val (.long d0), .second, .val (.long d1), .second, .val (.long d2), .second, rv da, rv a, .val (.int 2), .val (.int 0), .unset, .unset, .unset, .unset] [(.long d2)]) (fun _ k => own_ldJ X617 hx hZ e617 F613 (by decide) rfl (g := (mkF m 163 #[iv mk, iv xi, iv yi, .val (.long d0), .second, .val (.long d1), .second, .val (.long d2), .second, rv da, rv a, .val (.int 2), .val (.int 0), .unset, .unset, .unset, .unset] [(.int 2), (.ref da)])) rfl rfl (hb hby at_163) _ k) ?_
        refine own_S (mkF m 166 #[iv mk, iv xi, iv yi, .val (.long d0), .second, .val (.long d1), .second, .val (.long d2), .second, rv da, rv a, .val (.int 2), .val (.int 0), .unset, .unset, .unset, .unset] [(.ref da), (.long d2)]) (fun _ k => XS.aload X617.here hx rfl (hb hby at_164) rfl rfl k) ?_
        refine own_S (mkF m 168 #[iv mk, iv xi, iv yi, .val (.long d0), .second, .val (.long d1), .second, .val (.long d2), .second, rv da, rv a, .val (.int 2), .val (.int 0), .unset, .unset, .unset, .unset] [(.int 0), (.ref da), (.long d2)]) (fun _ k => XS.iload X617.here hx rfl (hb hby at_166) rfl k) ?_
        refine own_S (mkF m 169 #[iv mk, iv xi, iv yi, .val (.long d0), .second, .val (.long d1), .second, .val (.long d2), .second, rv da, rv a, .val (.int 2), .val (.int 0), .unset, .unset, .unset, .unset] [(.long d0), (.long d2)]) (fun _ k => own_ldJ X617 hx hZ e617 F613 (by decide) rfl (g := (mkF m 168 #[iv mk, iv xi, iv yi, .val (.long d0), .second, .val (.long d1), .second, .val (.long d2), .second, rv da, rv a, .val (.int 2), .val (.int 0), .unset, .unset, .unset, .unset] [(.int 0), (.ref da), (.long d2)])) rfl rfl (hb hby at_168) _ k) ?_
        refine own_S (mkF m 170 #[iv mk, iv xi, iv yi, .val (.long d0), .second, .val (.long d1), .second, .val (.long d2), .second, rv da, rv a, .val (.int 2), .val (.int 0), .unset, .unset, .unset, .unset] [(.int (lcmpW d2 d0))]) (fun _ k => XS.lcmp X617.here hx rfl (hb hby at_169) rfl k) ?_
        have hc620 : ¬ (d2 < d0) := (own_nlt hB)
        refine own_S (mkF m 178 #[iv mk, iv xi, iv yi, .val (.long d0), .second, .val (.long d1), .second, .val (.long d2), .second, rv da, rv a, .val (.int 2), .val (.int 0), .unset, .unset, .unset, .unset] []) (fun _ k => XS.ifYes X617.here hx rfl (pc0 := 170) (pc' := 178) rfl (hb hby at_170) rfl ((if0 _ _).trans (flt (fun q => hc620 ((lw_lt d2 d0).mp q))).2.1) (by decide) (by decide) k) ?_
        refine own_S (mkF m 180 #[iv mk, iv xi, iv yi, .val (.long d0), .second, .val (.long d1), .second, .val (.long d2), .second, rv da, rv a, .val (.int 2), .val (.int 0), .unset, .unset, .unset, .unset] [(.int 0)]) (fun _ k => XS.iload X617.here hx rfl (hb hby at_178) rfl k) ?_
        refine own_S (mkF m 182 #[iv mk, iv xi, iv yi, .val (.long d0), .second, .val (.long d1), .second, .val (.long d2), .second, rv da, rv a, .val (.int 2), .val (.int 0), .val (.int 0), .unset, .unset, .unset] []) (fun _ k => XS.istore X617.here hx rfl (hb hby at_180) rfl (l' := #[iv mk, iv xi, iv yi, .val (.long d0), .second, .val (.long d1), .second, .val (.long d2), .second, rv da, rv a, .val (.int 2), .val (.int 0), .val (.int 0), .unset, .unset, .unset]) rfl k) ?_
        refine own_S (mkF m 184 #[iv mk, iv xi, iv yi, .val (.long d0), .second, .val (.long d1), .second, .val (.long d2), .second, rv da, rv a, .val (.int 2), .val (.int 0), .val (.int 0), .unset, .unset, .unset] [(.int 0)]) (fun _ k => XS.iload X617.here hx rfl (hb hby at_182) rfl k) ?_
        refine own_S (mkF m 186 #[iv mk, iv xi, iv yi, .val (.long d0), .second, .val (.long d1), .second, .val (.long d2), .second, rv da, rv a, .val (.int 2), .val (.int 0), .val (.int 0), .unset, .unset, .unset] [(.int 2), (.int 0)]) (fun _ k => XS.iload X617.here hx rfl (hb hby at_184) rfl k) ?_
        have hc621 : ¬ ((0 : Int32) = (2 : Int32)) := by decide
        refine own_S (mkF m 194 #[iv mk, iv xi, iv yi, .val (.long d0), .second, .val (.long d1), .second, .val (.long d2), .second, rv da, rv a, .val (.int 2), .val (.int 0), .val (.int 0), .unset, .unset, .unset] []) (fun _ k => XS.icmpYes X617.here hx rfl (pc0 := 186) (pc' := 194) rfl (hb hby at_186) rfl (feq hc621).2 (by decide) (by decide) k) ?_
        refine own_S (mkF m 196 #[iv mk, iv xi, iv yi, .val (.long d0), .second, .val (.long d1), .second, .val (.long d2), .second, rv da, rv a, .val (.int 2), .val (.int 0), .val (.int 0), .unset, .unset, .unset] [(.int 2)]) (fun _ k => XS.iload X617.here hx rfl (hb hby at_194) rfl k) ?_
        refine own_S (mkF m 198 #[iv mk, iv xi, iv yi, .val (.long d0), .second, .val (.long d1), .second, .val (.long d2), .second, rv da, rv a, .val (.int 2), .val (.int 0), .val (.int 0), .val (.int 2), .unset, .unset] []) (fun _ k => XS.istore X617.here hx rfl (hb hby at_196) rfl (l' := #[iv mk, iv xi, iv yi, .val (.long d0), .second, .val (.long d1), .second, .val (.long d2), .second, rv da, rv a, .val (.int 2), .val (.int 0), .val (.int 0), .val (.int 2), .unset, .unset]) rfl k) ?_
        refine own_S (mkF m 200 #[iv mk, iv xi, iv yi, .val (.long d0), .second, .val (.long d1), .second, .val (.long d2), .second, rv da, rv a, .val (.int 2), .val (.int 0), .val (.int 0), .val (.int 2), .unset, .unset] [(.ref a)]) (fun _ k => XS.aload X617.here hx rfl (hb hby at_198) rfl rfl k) ?_
        obtain ⟨cq622, kq622, q622a, q622b, q622c⟩ := isOf hZ e617 F603
        obtain ⟨_, _, ⟨T622, L622, k622, n622⟩, -, X622, ⟨Lc622, hQ622, l622, y622, z622⟩, st622⟩ := X617.virtualBack hx (y := own_y9) (z := own_y9) hown (mvT hZ (own_g hw (i := 55) rfl)) (mvT hZ (own_g hw (i := 56) rfl)) (notFace_of_selects (args := #[]) (mvT hZ (own_g hw (i := 58) rfl))) (mvT hZ (own_g hw (i := 58) rfl)) (mvT hZ (own_g hw (i := 57) rfl)) (by decide) (backOf (W := 0) (own_rmpo2 l Z a0 hw [] (a) (da) (ha) (pa) (oa) (kd) (kh) (kp) (ko) ([(.long d0), (.long d1), (.long d2)]) ([(.int (0 : Int32)), (.int (2 : Int32)), g2]) ([(.int (0 : Int32)), (.int (-1 : Int32)), (.int (1 : Int32))]) ([(.long ((of + (1 : Int64)) + (1 : Int64))), (.long o1), (.long (of + (1 : Int64)))]) (((of + (1 : Int64)) + (1 : Int64))) ((0 : Int32)) ((2 : Int32)) T602.heap n0 Z602 F603 F604 F605 F606 F607 F608 F609 F613 F614 F615 F616 G_a G_ha G_pa NE_a_da NE_a_ha NE_a_pa NE_a_oa NE_da_ha NE_da_pa NE_da_oa NE_ha_pa NE_ha_oa NE_pa_oa rfl (by decide) (show (0 : Nat) < 3 from by decide) rfl (by decide) (show (2 : Nat) < 3 from by decide)) hZ (own_g hw (i := 59) rfl) (own_g hw (i := 3) rfl) (by decide) (by decide)) q622a q622c (g := (mkF m 200 #[iv mk, iv xi, iv yi, .val (.long d0), .second, .val (.long d1), .second, .val (.long d2), .second, rv da, rv a, .val (.int 2), .val (.int 0), .val (.int 0), .val (.int 2), .unset, .unset] [(.ref a)])) rfl (by rw [hml]; rfl) (Steps.refl _) (argsL := []) (rest := []) (lenOf own_pd___I rfl) rfl (by show 2 * 0 + _ ≤ _; exact Nat.le_of_eq rfl) (hb hby at_200) (fun _ _ => ⟨rfl, e617, (by decide : 5 + 0 ≤ _), (by decide : 18 + 0 ≤ _)⟩)
        dsimp only [Pt.U, Pt.locs, Pt.cells, Pt.slots] at X622 l622 y622 z622 st622 hQ622
        subst l622 y622 z622
        obtain ⟨rfl, N622q, K622q, F623, F624, F625, F626, F627, F628, F629, F630, F631⟩ := hQ622
        have N622 := Fr.app N617 N622q
        refine own_S (mkF m 203 #[iv mk, iv xi, iv yi, .val (.long d0), .second, .val (.long d1), .second, .val (.long d2), .second, rv da, rv a, .val (.int 2), .val (.int 0), .val (.int 0), .val (.int 2), .unset, .unset] [(.int 0)]) (fun _ k => st622.trans k) ?_
        have F632 := F613.keep K622q (ninS (Ne.symm NE_a_da) (ninS NE_da_ha (ninS NE_da_pa nin0)))
        have F633 := F616.keep K622q (ninS (Ne.symm NE_a_oa) (ninS (Ne.symm NE_ha_oa) (ninS (Ne.symm NE_pa_oa) nin0)))
        have Z622 : n0 ≤ T622.heap.size := Nat.le_trans Z602 K622q.1
        have F634 : own_Ar Z T622.heap ha kh .int [(.int (2 : Int32)), (.int (2 : Int32)), g2] := F630
        have F635 : own_Ar Z T622.heap pa kp .int [(.int (-1 : Int32)), (.int (-1 : Int32)), (.int (0 : Int32))] := F631
        refine own_S (mkF m 205 #[iv mk, iv xi, iv yi, .val (.long d0), .second, .val (.long d1), .second, .val (.long d2), .second, rv da, rv a, .val (.int 2), .val (.int 0), .val (.int 0), .val (.int 2), .val (.int 0), .unset] []) (fun _ k => XS.istore X622.here hx rfl (hb hby at_203) rfl (l' := #[iv mk, iv xi, iv yi, .val (.long d0), .second, .val (.long d1), .second, .val (.long d2), .second, rv da, rv a, .val (.int 2), .val (.int 0), .val (.int 0), .val (.int 2), .val (.int 0), .unset]) rfl k) ?_
        refine own_S (mkF m 207 #[iv mk, iv xi, iv yi, .val (.long d0), .second, .val (.long d1), .second, .val (.long d2), .second, rv da, rv a, .val (.int 2), .val (.int 0), .val (.int 0), .val (.int 2), .val (.int 0), .unset] [(.int 0)]) (fun _ k => XS.iload X622.here hx rfl (hb hby at_205) rfl k) ?_
        refine own_S (mkF m 209 #[iv mk, iv xi, iv yi, .val (.long d0), .second, .val (.long d1), .second, .val (.long d2), .second, rv da, rv a, .val (.int 2), .val (.int 0), .val (.int 0), .val (.int 2), .val (.int 0), .unset] [(.int 0), (.int 0)]) (fun _ k => XS.iload X622.here hx rfl (hb hby at_207) rfl k) ?_
        have hc636 : (0 : Int32) = (0 : Int32) := by decide
        refine own_S (mkF m 214 #[iv mk, iv xi, iv yi, .val (.long d0), .second, .val (.long d1), .second, .val (.long d2), .second, rv da, rv a, .val (.int 2), .val (.int 0), .val (.int 0), .val (.int 2), .val (.int 0), .unset] []) (fun _ k => XS.icmpYes X622.here hx rfl (pc0 := 209) (pc' := 214) rfl (hb hby at_209) rfl (teq hc636).1 (by decide) (by decide) k) ?_
        refine own_S (mkF m 216 #[iv mk, iv xi, iv yi, .val (.long d0), .second, .val (.long d1), .second, .val (.long d2), .second, rv da, rv a, .val (.int 2), .val (.int 0), .val (.int 0), .val (.int 2), .val (.int 0), .unset] [(.ref a)]) (fun _ k => XS.aload X622.here hx rfl (hb hby at_214) rfl rfl k) ?_
        obtain ⟨cq637, kq637, q637a, q637b, q637c⟩ := isOf hZ rfl F623
        obtain ⟨_, _, ⟨T637, L637, k637, n637⟩, -, X637, ⟨Lc637, hQ637, l637, y637, z637⟩, st637⟩ := X622.virtualBack hx (y := own_y2) (z := own_y2) hown (mvT hZ (own_g hw (i := 30) rfl)) (mvT hZ (own_g hw (i := 31) rfl)) (notFace_of_selects (args := #[]) (mvT hZ (own_g hw (i := 33) rfl))) (mvT hZ (own_g hw (i := 33) rfl)) (mvT hZ (own_g hw (i := 32) rfl)) (by decide) (backOf (W := 0) (own_rmne l Z a0 hw [] (a) ((1 : Int32)) T622.heap n0 Z622 F628 (by decide)) hZ (own_g hw (i := 34) rfl) (own_g hw (i := 3) rfl) (by decide) (by decide)) q637a q637c (g := (mkF m 216 #[iv mk, iv xi, iv yi, .val (.long d0), .second, .val (.long d1), .second, .val (.long d2), .second, rv da, rv a, .val (.int 2), .val (.int 0), .val (.int 0), .val (.int 2), .val (.int 0), .unset] [(.ref a)])) rfl (by rw [hml]; rfl) (Steps.refl _) (argsL := []) (rest := []) (lenOf own_pd___Z rfl) rfl (by show 2 * 0 + _ ≤ _; exact Nat.le_of_eq rfl) (hb hby at_216) (fun _ _ => ⟨rfl, rfl, (by decide : 5 + 0 ≤ _), (by decide : 18 + 0 ≤ _)⟩)
        dsimp only [Pt.U, Pt.locs, Pt.cells, Pt.slots] at X637 l637 y637 z637 st637 hQ637
        subst l637 y637 z637
        obtain ⟨rfl, N637q, e637⟩ := hQ637
        have N637 := Fr.app N622 N637q
        refine own_S (mkF m 219 #[iv mk, iv xi, iv yi, .val (.long d0), .second, .val (.long d1), .second, .val (.long d2), .second, rv da, rv a, .val (.int 2), .val (.int 0), .val (.int 0), .val (.int 2), .val (.int 0), .unset] [(.int 0)]) (fun _ k => st637.trans k) ?_
        have hc638 : (0 : Int32) = (0 : Int32) := by decide
        refine own_S (mkF m 224 #[iv mk, iv xi, iv yi, .val (.long d0), .second, .val (.long d1), .second, .val (.long d2), .second, rv da, rv a, .val (.int 2), .val (.int 0), .val (.int 0), .val (.int 2), .val (.int 0), .unset] []) (fun _ k => XS.ifYes X637.here hx rfl (pc0 := 219) (pc' := 224) rfl (hb hby at_219) rfl ((if0 _ _).trans (teq hc638).1) (by decide) (by decide) k) ?_
        refine own_S (mkF m 226 #[iv mk, iv xi, iv yi, .val (.long d0), .second, .val (.long d1), .second, .val (.long d2), .second, rv da, rv a, .val (.int 2), .val (.int 0), .val (.int 0), .val (.int 2), .val (.int 0), .unset] [(.ref a)]) (fun _ k => XS.aload X637.here hx rfl (hb hby at_224) rfl rfl k) ?_
        obtain ⟨cq639, kq639, q639a, q639b, q639c⟩ := isOf hZ e637 F623
        obtain ⟨_, _, ⟨T639, L639, k639, n639⟩, -, X639, ⟨Lc639, hQ639, l639, y639, z639⟩, st639⟩ := X637.virtualBack hx (y := own_y9) (z := own_y9) hown (mvT hZ (own_g hw (i := 55) rfl)) (mvT hZ (own_g hw (i := 56) rfl)) (notFace_of_selects (args := #[]) (mvT hZ (own_g hw (i := 58) rfl))) (mvT hZ (own_g hw (i := 58) rfl)) (mvT hZ (own_g hw (i := 57) rfl)) (by decide) (backOf (W := 0) (own_rmpo1 l Z a0 hw [] (a) (da) (ha) (pa) (oa) (kd) (kh) (kp) (ko) ([(.long d0), (.long d1), (.long d2)]) ([(.int (2 : Int32)), (.int (2 : Int32)), g2]) ([(.int (-1 : Int32)), (.int (-1 : Int32)), (.int (0 : Int32))]) ([(.long ((of + (1 : Int64)) + (1 : Int64))), (.long o1), (.long (of + (1 : Int64)))]) (((of + (1 : Int64)) + (1 : Int64))) ((2 : Int32)) T622.heap n0 Z622 F623 F624 F625 F626 F627 F628 F629 F632 F634 F635 F633 G_a G_ha G_pa NE_a_da NE_a_ha NE_a_pa NE_a_oa NE_da_ha NE_da_pa NE_da_oa NE_ha_pa NE_ha_oa NE_pa_oa rfl (by decide) (show (2 : Nat) < 3 from by decide)) hZ (own_g hw (i := 59) rfl) (own_g hw (i := 3) rfl) (by decide) (by decide)) q639a q639c (g := (mkF m 226 #[iv mk, iv xi, iv yi, .val (.long d0), .second, .val (.long d1), .second, .val (.long d2), .second, rv da, rv a, .val (.int 2), .val (.int 0), .val (.int 0), .val (.int 2), .val (.int 0), .unset] [(.ref a)])) rfl (by rw [hml]; rfl) (Steps.refl _) (argsL := []) (rest := []) (lenOf own_pd___I rfl) rfl (by show 2 * 0 + _ ≤ _; exact Nat.le_of_eq rfl) (hb hby at_226) (fun _ _ => ⟨rfl, e637, (by decide : 5 + 0 ≤ _), (by decide : 18 + 0 ≤ _)⟩)
        dsimp only [Pt.U, Pt.locs, Pt.cells, Pt.slots] at X639 l639 y639 z639 st639 hQ639
        subst l639 y639 z639
        obtain ⟨rfl, N639q, K639q, F640, F641, F642, F643, F644, F645, F646, F647, F648⟩ := hQ639
        have N639 := Fr.app N637 N639q
        refine own_S (mkF m 229 #[iv mk, iv xi, iv yi, .val (.long d0), .second, .val (.long d1), .second, .val (.long d2), .second, rv da, rv a, .val (.int 2), .val (.int 0), .val (.int 0), .val (.int 2), .val (.int 0), .unset] [(.int 2)]) (fun _ k => st639.trans k) ?_
        have F649 := F632.keep K639q (ninS (Ne.symm NE_a_da) (ninS NE_da_ha (ninS NE_da_pa nin0)))
        have F650 := F633.keep K639q (ninS (Ne.symm NE_a_oa) (ninS (Ne.symm NE_ha_oa) (ninS (Ne.symm NE_pa_oa) nin0)))
        have Z639 : n0 ≤ T639.heap.size := Nat.le_trans Z622 K639q.1
        refine own_S (mkF m 231 #[iv mk, iv xi, iv yi, .val (.long d0), .second, .val (.long d1), .second, .val (.long d2), .second, rv da, rv a, .val (.int 2), .val (.int 0), .val (.int 0), .val (.int 2), .val (.int 0), .val (.int 2)] []) (fun _ k => XS.istore X639.here hx rfl (hb hby at_229) rfl (l' := #[iv mk, iv xi, iv yi, .val (.long d0), .second, .val (.long d1), .second, .val (.long d2), .second, rv da, rv a, .val (.int 2), .val (.int 0), .val (.int 0), .val (.int 2), .val (.int 0), .val (.int 2)]) rfl k) ?_
        refine own_S (mkF m 233 #[iv mk, iv xi, iv yi, .val (.long d0), .second, .val (.long d1), .second, .val (.long d2), .second, rv da, rv a, .val (.int 2), .val (.int 0), .val (.int 0), .val (.int 2), .val (.int 0), .val (.int 2)] [(.int 2)]) (fun _ k => XS.iload X639.here hx rfl (hb hby at_231) rfl k) ?_
        refine own_S (mkF m 235 #[iv mk, iv xi, iv yi, .val (.long d0), .second, .val (.long d1), .second, .val (.long d2), .second, rv da, rv a, .val (.int 2), .val (.int 0), .val (.int 0), .val (.int 2), .val (.int 0), .val (.int 2)] [(.int 2), (.int 2)]) (fun _ k => XS.iload X639.here hx rfl (hb hby at_233) rfl k) ?_
        have hc651 : (2 : Int32) = (2 : Int32) := by decide
        refine own_S (mkF m 238 #[iv mk, iv xi, iv yi, .val (.long d0), .second, .val (.long d1), .second, .val (.long d2), .second, rv da, rv a, .val (.int 2), .val (.int 0), .val (.int 0), .val (.int 2), .val (.int 0), .val (.int 2)] []) (fun _ k => XS.icmpNo X639.here hx rfl (hb hby at_235) rfl (teq hc651).2 k) ?_
        refine own_S (mkF m 240 #[iv mk, iv xi, iv yi, .val (.long d0), .second, .val (.long d1), .second, .val (.long d2), .second, rv da, rv a, .val (.int 2), .val (.int 0), .val (.int 0), .val (.int 2), .val (.int 0), .val (.int 2)] [(.ref a)]) (fun _ k => XS.aload X639.here hx rfl (hb hby at_238) rfl rfl k) ?_
        obtain ⟨cq652, kq652, q652a, q652b, q652c⟩ := isOf hZ rfl F640
        obtain ⟨_, _, ⟨T652, L652, k652, n652⟩, -, X652, ⟨Lc652, hQ652, l652, y652, z652⟩, st652⟩ := X639.virtualBack hx (y := own_y2) (z := own_y2) hown (mvT hZ (own_g hw (i := 30) rfl)) (mvT hZ (own_g hw (i := 31) rfl)) (notFace_of_selects (args := #[]) (mvT hZ (own_g hw (i := 33) rfl))) (mvT hZ (own_g hw (i := 33) rfl)) (mvT hZ (own_g hw (i := 32) rfl)) (by decide) (backOf (W := 0) (own_rmem l Z a0 hw [] (a) T639.heap n0 Z639 F645) hZ (own_g hw (i := 34) rfl) (own_g hw (i := 3) rfl) (by decide) (by decide)) q652a q652c (g := (mkF m 240 #[iv mk, iv xi, iv yi, .val (.long d0), .second, .val (.long d1), .second, .val (.long d2), .second, rv da, rv a, .val (.int 2), .val (.int 0), .val (.int 0), .val (.int 2), .val (.int 0), .val (.int 2)] [(.ref a)])) rfl (by rw [hml]; rfl) (Steps.refl _) (argsL := []) (rest := []) (lenOf own_pd___Z rfl) rfl (by show 2 * 0 + _ ≤ _; exact Nat.le_of_eq rfl) (hb hby at_240) (fun _ _ => ⟨rfl, rfl, (by decide : 5 + 0 ≤ _), (by decide : 18 + 0 ≤ _)⟩)
        dsimp only [Pt.U, Pt.locs, Pt.cells, Pt.slots] at X652 l652 y652 z652 st652 hQ652
        subst l652 y652 z652
        obtain ⟨rfl, N652q, e652⟩ := hQ652
        have N652 := Fr.app N639 N652q
        refine own_S (mkF m 243 #[iv mk, iv xi, iv yi, .val (.long d0), .second, .val (.long d1), .second, .val (.long d2), .second, rv da, rv a, .val (.int 2), .val (.int 0), .val (.int 0), .val (.int 2), .val (.int 0), .val (.int 2)] [(.int 1)]) (fun _ k => st652.trans k) ?_
        have hc653 : ¬ ((1 : Int32) = (0 : Int32)) := by decide
        refine own_S (mkF m 246 #[iv mk, iv xi, iv yi, .val (.long d0), .second, .val (.long d1), .second, .val (.long d2), .second, rv da, rv a, .val (.int 2), .val (.int 0), .val (.int 0), .val (.int 2), .val (.int 0), .val (.int 2)] []) (fun _ k => XS.ifNo X652.here hx rfl (hb hby at_243) rfl ((if0 _ _).trans (feq hc653).1) k) ?_
        refine own_S (mkF m 247 #[iv mk, iv xi, iv yi, .val (.long d0), .second, .val (.long d1), .second, .val (.long d2), .second, rv da, rv a, .val (.int 2), .val (.int 0), .val (.int 0), .val (.int 2), .val (.int 0), .val (.int 2)] [(.int 1)]) (fun _ k => XS.iconst X652.here hx rfl (hb hby at_246) k) ?_
        refine own_S (mkF m 251 #[iv mk, iv xi, iv yi, .val (.long d0), .second, .val (.long d1), .second, .val (.long d2), .second, rv da, rv a, .val (.int 2), .val (.int 0), .val (.int 0), .val (.int 2), .val (.int 0), .val (.int 2)] [(.int 1)]) (fun _ k => XS.goto X652.here hx rfl (pc0 := 247) (pc' := 251) rfl (hb hby at_247) (by decide) (by decide) k) ?_
        exact own_retN X652 hx hlk (t := .boolean) hret (by simp) (hb hby at_251) (by rw [e652]; exact ⟨rfl, N652, trivial⟩) (by decide) (by decide)
      ·
        obtain ⟨cq654, kq654, q654a, q654b, q654c⟩ := isOf hZ rfl F588
        obtain ⟨_, _, ⟨T654, L654, k654, n654⟩, -, X654, ⟨Lc654, hQ654, l654, y654, z654⟩, st654⟩ := X587.virtualBack hx (y := own_y6) (z := own_y6) hown (mvT hZ (own_g hw (i := 36) rfl)) (mvT hZ (own_g hw (i := 37) rfl)) (notFace_of_selects (args := #[]) (mvT hZ (own_g hw (i := 39) rfl))) (mvT hZ (own_g hw (i := 39) rfl)) (mvT hZ (own_g hw (i := 38) rfl)) (by decide) (backOf (W := 0) (own_rmof1n l Z a0 hw [] (a) (da) (ha) (pa) (oa) (kd) (kh) (kp) (ko) ([(.long d0), (.long d1), (.long d2)]) ([(.int (2 : Int32)), g1, g2]) ([(.int (-1 : Int32)), (.int (-1 : Int32)), (.int (0 : Int32))]) ([(.long o0), (.long o1), (.long (of + (1 : Int64)))]) ((0 : Int32)) ((2 : Int32)) ((of + (1 : Int64))) (d0) (d2) ((of + (1 : Int64))) T587.heap n0 Z587 F588 F589 F590 F591 F592 F593 F594 F598 F599 F600 F601 G_a G_ha G_pa G_oa NE_a_da NE_a_ha NE_a_pa NE_a_oa NE_da_ha NE_da_pa NE_da_oa NE_ha_pa NE_ha_oa NE_pa_oa (by decide) (show (0 : Nat) < 3 from by decide) (show (0 : Nat) < 3 from by decide) rfl (show (1 : Nat) < 3 from by decide) rfl (by decide) (show (2 : Nat) < 3 from by decide) (by decide) rfl rfl rfl hB) hZ (own_g hw (i := 40) rfl) (own_g hw (i := 3) rfl) (by decide) (by decide)) q654a q654c (g := (mkF m 111 #[iv mk, iv xi, iv yi, .val (.long d0), .second, .val (.long d1), .second, .val (.long d2), .second, rv da, rv a, .val (.int 2), .val (.int 0), .unset, .unset, .unset, .unset] [(.int 0), (.ref a)])) rfl (by rw [hml]; rfl) (Steps.refl _) (argsL := [(.int 0)]) (rest := []) (lenOf own_pd__I_V rfl) rfl (by show 2 * 0 + _ ≤ _; exact Nat.le_of_eq rfl) (hb hby at_111) (fun _ _ => ⟨rfl, rfl, (by decide : 5 + 0 ≤ _), (by decide : 18 + 0 ≤ _)⟩)
        dsimp only [Pt.U, Pt.locs, Pt.cells, Pt.slots] at X654 l654 y654 z654 st654 hQ654
        subst l654 y654 z654
        obtain ⟨rfl, N654q, K654q, F655, F656, F657, F658, F659, F660, F661, F662, F663, F664⟩ := hQ654
        have N654 := Fr.app N587 N654q
        refine own_S (mkF m 114 #[iv mk, iv xi, iv yi, .val (.long d0), .second, .val (.long d1), .second, .val (.long d2), .second, rv da, rv a, .val (.int 2), .val (.int 0), .unset, .unset, .unset, .unset] []) (fun _ k => st654.trans k) ?_
        have F665 := F598.keep K654q (ninS (Ne.symm NE_a_da) (ninS NE_da_ha (ninS NE_da_pa (ninS NE_da_oa nin0))))
        have Z654 : n0 ≤ T654.heap.size := Nat.le_trans Z587 K654q.1
        have F666 : own_Ar Z T654.heap ha kh .int [(.int (2 : Int32)), (.int (0 : Int32)), g2] := F662
        have F667 : own_Ar Z T654.heap pa kp .int [(.int (1 : Int32)), (.int (-1 : Int32)), (.int (0 : Int32))] := F663
        have F668 : own_Ar Z T654.heap oa ko .long [(.long ((of + (1 : Int64)) + (1 : Int64))), (.long o1), (.long (of + (1 : Int64)))] := F664
        refine own_S (mkF m 116 #[iv mk, iv xi, iv yi, .val (.long d0), .second, .val (.long d1), .second, .val (.long d2), .second, rv da, rv a, .val (.int 2), .val (.int 0), .unset, .unset, .unset, .unset] [(.ref a)]) (fun _ k => XS.aload X654.here hx rfl (hb hby at_114) rfl rfl k) ?_
        obtain ⟨cq669, kq669, q669a, q669b, q669c⟩ := isOf hZ rfl F655
        obtain ⟨_, _, ⟨T669, L669, k669, n669⟩, -, X669, ⟨Lc669, hQ669, l669, y669, z669⟩, st669⟩ := X654.virtualBack hx (y := own_y2) (z := own_y2) hown (mvT hZ (own_g hw (i := 30) rfl)) (mvT hZ (own_g hw (i := 31) rfl)) (notFace_of_selects (args := #[]) (mvT hZ (own_g hw (i := 33) rfl))) (mvT hZ (own_g hw (i := 33) rfl)) (mvT hZ (own_g hw (i := 32) rfl)) (by decide) (backOf (W := 0) (own_rmne l Z a0 hw [] (a) ((2 : Int32)) T654.heap n0 Z654 F660 (by decide)) hZ (own_g hw (i := 34) rfl) (own_g hw (i := 3) rfl) (by decide) (by decide)) q669a q669c (g := (mkF m 116 #[iv mk, iv xi, iv yi, .val (.long d0), .second, .val (.long d1), .second, .val (.long d2), .second, rv da, rv a, .val (.int 2), .val (.int 0), .unset, .unset, .unset, .unset] [(.ref a)])) rfl (by rw [hml]; rfl) (Steps.refl _) (argsL := []) (rest := []) (lenOf own_pd___Z rfl) rfl (by show 2 * 0 + _ ≤ _; exact Nat.le_of_eq rfl) (hb hby at_116) (fun _ _ => ⟨rfl, rfl, (by decide : 5 + 0 ≤ _), (by decide : 18 + 0 ≤ _)⟩)
        dsimp only [Pt.U, Pt.locs, Pt.cells, Pt.slots] at X669 l669 y669 z669 st669 hQ669
        subst l669 y669 z669
        obtain ⟨rfl, N669q, e669⟩ := hQ669
        have N669 := Fr.app N654 N669q
        refine own_S (mkF m 119 #[iv mk, iv xi, iv yi, .val (.long d0), .second, .val (.long d1), .second, .val (.long d2), .second, rv da, rv a, .val (.int 2), .val (.int 0), .unset, .unset, .unset, .unset] [(.int 0)]) (fun _ k => st669.trans k) ?_
        have hc670 : (0 : Int32) = (0 : Int32) := by decide
        refine own_S (mkF m 124 #[iv mk, iv xi, iv yi, .val (.long d0), .second, .val (.long d1), .second, .val (.long d2), .second, rv da, rv a, .val (.int 2), .val (.int 0), .unset, .unset, .unset, .unset] []) (fun _ k => XS.ifYes X669.here hx rfl (pc0 := 119) (pc' := 124) rfl (hb hby at_119) rfl ((if0 _ _).trans (teq hc670).1) (by decide) (by decide) k) ?_
        refine own_S (mkF m 126 #[iv mk, iv xi, iv yi, .val (.long d0), .second, .val (.long d1), .second, .val (.long d2), .second, rv da, rv a, .val (.int 2), .val (.int 0), .unset, .unset, .unset, .unset] [(.int 2)]) (fun _ k => XS.iload X669.here hx rfl (hb hby at_124) rfl k) ?_
        refine own_S (mkF m 128 #[iv mk, iv xi, iv yi, .val (.long d0), .second, .val (.long d1), .second, .val (.long d2), .second, rv da, rv a, .val (.int 2), .val (.int 0), .unset, .unset, .unset, .unset] [(.int 0), (.int 2)]) (fun _ k => XS.iload X669.here hx rfl (hb hby at_126) rfl k) ?_
        have hc671 : ¬ ((2 : Int32) = (0 : Int32)) := by decide
        refine own_S (mkF m 159 #[iv mk, iv xi, iv yi, .val (.long d0), .second, .val (.long d1), .second, .val (.long d2), .second, rv da, rv a, .val (.int 2), .val (.int 0), .unset, .unset, .unset, .unset] []) (fun _ k => XS.icmpYes X669.here hx rfl (pc0 := 128) (pc' := 159) rfl (hb hby at_128) rfl (feq hc671).2 (by decide) (by decide) k) ?_
        refine own_S (mkF m 161 #[iv mk, iv xi, iv yi, .val (.long d0), .second, .val (.long d1), .second, .val (.long d2), .second, rv da, rv a, .val (.int 2), .val (.int 0), .unset, .unset, .unset, .unset] [(.ref da)]) (fun _ k => XS.aload X669.here hx rfl (hb hby at_159) rfl rfl k) ?_
        refine own_S (mkF m 163 #[iv mk, iv xi, iv yi, .val (.long d0), .second, .val (.long d1), .second, .val (.long d2), .second, rv da, rv a, .val (.int 2), .val (.int 0), .unset, .unset, .unset, .unset] [(.int 2), (.ref da)]) (fun _ k => XS.iload X669.here hx rfl (hb hby at_161) rfl k) ?_
        refine own_S (mkF m 164 #[iv mk, iv xi, iv yi, .val (.long d0), .second, .val (.long d1), .second, .val (.long d2), .second, rv da, rv a, .val (.int 2), .val (.int 0), .unset, .unset, .unset, .unset] [(.long d2)]) (fun _ k => own_ldJ X669 hx hZ e669 F665 (by decide) rfl (g := (mkF m 163 #[iv mk, iv xi, iv yi, .val (.long d0), .second, .val (.long d1), .second, .val (.long d2), .second, rv da, rv a, .val (.int 2), .val (.int 0), .unset, .unset, .unset, .unset] [(.int 2), (.ref da)])) rfl rfl (hb hby at_163) _ k) ?_
        refine own_S (mkF m 166 #[iv mk, iv xi, iv yi, .val (.long d0), .second, .val (.long d1), .second, .val (.long d2), .second, rv da, rv a, .val (.int 2), .val (.int 0), .unset, .unset, .unset, .unset] [(.ref da), (.long d2)]) (fun _ k => XS.aload X669.here hx rfl (hb hby at_164) rfl rfl k) ?_
        refine own_S (mkF m 168 #[iv mk, iv xi, iv yi, .val (.long d0), .second, .val (.long d1), .second, .val (.long d2), .second, rv da, rv a, .val (.int 2), .val (.int 0), .unset, .unset, .unset, .unset] [(.int 0), (.ref da), (.long d2)]) (fun _ k => XS.iload X669.here hx rfl (hb hby at_166) rfl k) ?_
        refine own_S (mkF m 169 #[iv mk, iv xi, iv yi, .val (.long d0), .second, .val (.long d1), .second, .val (.long d2), .second, rv da, rv a, .val (.int 2), .val (.int 0), .unset, .unset, .unset, .unset] [(.long d0), (.long d2)]) (fun _ k => own_ldJ X669 hx hZ e669 F665 (by decide) rfl (g := (mkF m 168 #[iv mk, iv xi, iv yi, .val (.long d0), .second, .val (.long d1), .second, .val (.long d2), .second, rv da, rv a, .val (.int 2), .val (.int 0), .unset, .unset, .unset, .unset] [(.int 0), (.ref da), (.long d2)])) rfl rfl (hb hby at_168) _ k) ?_
        refine own_S (mkF m 170 #[iv mk, iv xi, iv yi, .val (.long d0), .second, .val (.long d1), .second, .val (.long d2), .second, rv da, rv a, .val (.int 2), .val (.int 0), .unset, .unset, .unset, .unset] [(.int (lcmpW d2 d0))]) (fun _ k => XS.lcmp X669.here hx rfl (hb hby at_169) rfl k) ?_
        have hc672 : d2 < d0 := (own_lt hof hB)
        refine own_S (mkF m 173 #[iv mk, iv xi, iv yi, .val (.long d0), .second, .val (.long d1), .second, .val (.long d2), .second, rv da, rv a, .val (.int 2), .val (.int 0), .unset, .unset, .unset, .unset] []) (fun _ k => XS.ifNo X669.here hx rfl (hb hby at_170) rfl ((if0 _ _).trans (tlt ((lw_lt d2 d0).mpr hc672)).2.1) k) ?_
        refine own_S (mkF m 175 #[iv mk, iv xi, iv yi, .val (.long d0), .second, .val (.long d1), .second, .val (.long d2), .second, rv da, rv a, .val (.int 2), .val (.int 0), .unset, .unset, .unset, .unset] [(.int 2)]) (fun _ k => XS.iload X669.here hx rfl (hb hby at_173) rfl k) ?_
        refine own_S (mkF m 180 #[iv mk, iv xi, iv yi, .val (.long d0), .second, .val (.long d1), .second, .val (.long d2), .second, rv da, rv a, .val (.int 2), .val (.int 0), .unset, .unset, .unset, .unset] [(.int 2)]) (fun _ k => XS.goto X669.here hx rfl (pc0 := 175) (pc' := 180) rfl (hb hby at_175) (by decide) (by decide) k) ?_
        refine own_S (mkF m 182 #[iv mk, iv xi, iv yi, .val (.long d0), .second, .val (.long d1), .second, .val (.long d2), .second, rv da, rv a, .val (.int 2), .val (.int 0), .val (.int 2), .unset, .unset, .unset] []) (fun _ k => XS.istore X669.here hx rfl (hb hby at_180) rfl (l' := #[iv mk, iv xi, iv yi, .val (.long d0), .second, .val (.long d1), .second, .val (.long d2), .second, rv da, rv a, .val (.int 2), .val (.int 0), .val (.int 2), .unset, .unset, .unset]) rfl k) ?_
        refine own_S (mkF m 184 #[iv mk, iv xi, iv yi, .val (.long d0), .second, .val (.long d1), .second, .val (.long d2), .second, rv da, rv a, .val (.int 2), .val (.int 0), .val (.int 2), .unset, .unset, .unset] [(.int 2)]) (fun _ k => XS.iload X669.here hx rfl (hb hby at_182) rfl k) ?_
        refine own_S (mkF m 186 #[iv mk, iv xi, iv yi, .val (.long d0), .second, .val (.long d1), .second, .val (.long d2), .second, rv da, rv a, .val (.int 2), .val (.int 0), .val (.int 2), .unset, .unset, .unset] [(.int 2), (.int 2)]) (fun _ k => XS.iload X669.here hx rfl (hb hby at_184) rfl k) ?_
        have hc673 : (2 : Int32) = (2 : Int32) := by decide
        refine own_S (mkF m 189 #[iv mk, iv xi, iv yi, .val (.long d0), .second, .val (.long d1), .second, .val (.long d2), .second, rv da, rv a, .val (.int 2), .val (.int 0), .val (.int 2), .unset, .unset, .unset] []) (fun _ k => XS.icmpNo X669.here hx rfl (hb hby at_186) rfl (teq hc673).2 k) ?_
        refine own_S (mkF m 191 #[iv mk, iv xi, iv yi, .val (.long d0), .second, .val (.long d1), .second, .val (.long d2), .second, rv da, rv a, .val (.int 2), .val (.int 0), .val (.int 2), .unset, .unset, .unset] [(.int 0)]) (fun _ k => XS.iload X669.here hx rfl (hb hby at_189) rfl k) ?_
        refine own_S (mkF m 196 #[iv mk, iv xi, iv yi, .val (.long d0), .second, .val (.long d1), .second, .val (.long d2), .second, rv da, rv a, .val (.int 2), .val (.int 0), .val (.int 2), .unset, .unset, .unset] [(.int 0)]) (fun _ k => XS.goto X669.here hx rfl (pc0 := 191) (pc' := 196) rfl (hb hby at_191) (by decide) (by decide) k) ?_
        refine own_S (mkF m 198 #[iv mk, iv xi, iv yi, .val (.long d0), .second, .val (.long d1), .second, .val (.long d2), .second, rv da, rv a, .val (.int 2), .val (.int 0), .val (.int 2), .val (.int 0), .unset, .unset] []) (fun _ k => XS.istore X669.here hx rfl (hb hby at_196) rfl (l' := #[iv mk, iv xi, iv yi, .val (.long d0), .second, .val (.long d1), .second, .val (.long d2), .second, rv da, rv a, .val (.int 2), .val (.int 0), .val (.int 2), .val (.int 0), .unset, .unset]) rfl k) ?_
        refine own_S (mkF m 200 #[iv mk, iv xi, iv yi, .val (.long d0), .second, .val (.long d1), .second, .val (.long d2), .second, rv da, rv a, .val (.int 2), .val (.int 0), .val (.int 2), .val (.int 0), .unset, .unset] [(.ref a)]) (fun _ k => XS.aload X669.here hx rfl (hb hby at_198) rfl rfl k) ?_
        obtain ⟨cq674, kq674, q674a, q674b, q674c⟩ := isOf hZ e669 F655
        obtain ⟨_, _, ⟨T674, L674, k674, n674⟩, -, X674, ⟨Lc674, hQ674, l674, y674, z674⟩, st674⟩ := X669.virtualBack hx (y := own_y9) (z := own_y9) hown (mvT hZ (own_g hw (i := 55) rfl)) (mvT hZ (own_g hw (i := 56) rfl)) (notFace_of_selects (args := #[]) (mvT hZ (own_g hw (i := 58) rfl))) (mvT hZ (own_g hw (i := 58) rfl)) (mvT hZ (own_g hw (i := 57) rfl)) (by decide) (backOf (W := 0) (own_rmpo2 l Z a0 hw [] (a) (da) (ha) (pa) (oa) (kd) (kh) (kp) (ko) ([(.long d0), (.long d1), (.long d2)]) ([(.int (2 : Int32)), (.int (0 : Int32)), g2]) ([(.int (1 : Int32)), (.int (-1 : Int32)), (.int (0 : Int32))]) ([(.long ((of + (1 : Int64)) + (1 : Int64))), (.long o1), (.long (of + (1 : Int64)))]) (((of + (1 : Int64)) + (1 : Int64))) ((2 : Int32)) ((0 : Int32)) T654.heap n0 Z654 F655 F656 F657 F658 F659 F660 F661 F665 F666 F667 F668 G_a G_ha G_pa NE_a_da NE_a_ha NE_a_pa NE_a_oa NE_da_ha NE_da_pa NE_da_oa NE_ha_pa NE_ha_oa NE_pa_oa rfl (by decide) (show (2 : Nat) < 3 from by decide) rfl (by decide) (show (0 : Nat) < 3 from by decide)) hZ (own_g hw (i := 59) rfl) (own_g hw (i := 3) rfl) (by decide) (by decide)) q674a q674c (g := (mkF m 200 #[iv mk, iv xi, iv yi, .val (.long d0), .second, .val (.long d1), .second, .val (.long d2), .second, rv da, rv a, .val (.int 2), .val (.int 0), .val (.int 2), .val (.int 0), .unset, .unset] [(.ref a)])) rfl (by rw [hml]; rfl) (Steps.refl _) (argsL := []) (rest := []) (lenOf own_pd___I rfl) rfl (by show 2 * 0 + _ ≤ _; exact Nat.le_of_eq rfl) (hb hby at_200) (fun _ _ => ⟨rfl, e669, (by decide : 5 + 0 ≤ _), (by decide : 18 + 0 ≤ _)⟩)
        dsimp only [Pt.U, Pt.locs, Pt.cells, Pt.slots] at X674 l674 y674 z674 st674 hQ674
        subst l674 y674 z674
        obtain ⟨rfl, N674q, K674q, F675, F676, F677, F678, F679, F680, F681, F682, F683⟩ := hQ674
        have N674 := Fr.app N669 N674q
        refine own_S (mkF m 203 #[iv mk, iv xi, iv yi, .val (.long d0), .second, .val (.long d1), .second, .val (.long d2), .second, rv da, rv a, .val (.int 2), .val (.int 0), .val (.int 2), .val (.int 0), .unset, .unset] [(.int 2)]) (fun _ k => st674.trans k) ?_
        have F684 := F665.keep K674q (ninS (Ne.symm NE_a_da) (ninS NE_da_ha (ninS NE_da_pa nin0)))
        have F685 := F668.keep K674q (ninS (Ne.symm NE_a_oa) (ninS (Ne.symm NE_ha_oa) (ninS (Ne.symm NE_pa_oa) nin0)))
        have Z674 : n0 ≤ T674.heap.size := Nat.le_trans Z654 K674q.1
        have F686 : own_Ar Z T674.heap ha kh .int [(.int (0 : Int32)), (.int (0 : Int32)), g2] := F682
        have F687 : own_Ar Z T674.heap pa kp .int [(.int (0 : Int32)), (.int (-1 : Int32)), (.int (-1 : Int32))] := F683
        refine own_S (mkF m 205 #[iv mk, iv xi, iv yi, .val (.long d0), .second, .val (.long d1), .second, .val (.long d2), .second, rv da, rv a, .val (.int 2), .val (.int 0), .val (.int 2), .val (.int 0), .val (.int 2), .unset] []) (fun _ k => XS.istore X674.here hx rfl (hb hby at_203) rfl (l' := #[iv mk, iv xi, iv yi, .val (.long d0), .second, .val (.long d1), .second, .val (.long d2), .second, rv da, rv a, .val (.int 2), .val (.int 0), .val (.int 2), .val (.int 0), .val (.int 2), .unset]) rfl k) ?_
        refine own_S (mkF m 207 #[iv mk, iv xi, iv yi, .val (.long d0), .second, .val (.long d1), .second, .val (.long d2), .second, rv da, rv a, .val (.int 2), .val (.int 0), .val (.int 2), .val (.int 0), .val (.int 2), .unset] [(.int 2)]) (fun _ k => XS.iload X674.here hx rfl (hb hby at_205) rfl k) ?_
        refine own_S (mkF m 209 #[iv mk, iv xi, iv yi, .val (.long d0), .second, .val (.long d1), .second, .val (.long d2), .second, rv da, rv a, .val (.int 2), .val (.int 0), .val (.int 2), .val (.int 0), .val (.int 2), .unset] [(.int 2), (.int 2)]) (fun _ k => XS.iload X674.here hx rfl (hb hby at_207) rfl k) ?_
        have hc688 : (2 : Int32) = (2 : Int32) := by decide
        refine own_S (mkF m 214 #[iv mk, iv xi, iv yi, .val (.long d0), .second, .val (.long d1), .second, .val (.long d2), .second, rv da, rv a, .val (.int 2), .val (.int 0), .val (.int 2), .val (.int 0), .val (.int 2), .unset] []) (fun _ k => XS.icmpYes X674.here hx rfl (pc0 := 209) (pc' := 214) rfl (hb hby at_209) rfl (teq hc688).1 (by decide) (by decide) k) ?_
        refine own_S (mkF m 216 #[iv mk, iv xi, iv yi, .val (.long d0), .second, .val (.long d1), .second, .val (.long d2), .second, rv da, rv a, .val (.int 2), .val (.int 0), .val (.int 2), .val (.int 0), .val (.int 2), .unset] [(.ref a)]) (fun _ k => XS.aload X674.here hx rfl (hb hby at_214) rfl rfl k) ?_
        obtain ⟨cq689, kq689, q689a, q689b, q689c⟩ := isOf hZ rfl F675
        obtain ⟨_, _, ⟨T689, L689, k689, n689⟩, -, X689, ⟨Lc689, hQ689, l689, y689, z689⟩, st689⟩ := X674.virtualBack hx (y := own_y2) (z := own_y2) hown (mvT hZ (own_g hw (i := 30) rfl)) (mvT hZ (own_g hw (i := 31) rfl)) (notFace_of_selects (args := #[]) (mvT hZ (own_g hw (i := 33) rfl))) (mvT hZ (own_g hw (i := 33) rfl)) (mvT hZ (own_g hw (i := 32) rfl)) (by decide) (backOf (W := 0) (own_rmne l Z a0 hw [] (a) ((1 : Int32)) T674.heap n0 Z674 F680 (by decide)) hZ (own_g hw (i := 34) rfl) (own_g hw (i := 3) rfl) (by decide) (by decide)) q689a q689c (g := (mkF m 216 #[iv mk, iv xi, iv yi, .val (.long d0), .second, .val (.long d1), .second, .val (.long d2), .second, rv da, rv a, .val (.int 2), .val (.int 0), .val (.int 2), .val (.int 0), .val (.int 2), .unset] [(.ref a)])) rfl (by rw [hml]; rfl) (Steps.refl _) (argsL := []) (rest := []) (lenOf own_pd___Z rfl) rfl (by show 2 * 0 + _ ≤ _; exact Nat.le_of_eq rfl) (hb hby at_216) (fun _ _ => ⟨rfl, rfl, (by decide : 5 + 0 ≤ _), (by decide : 18 + 0 ≤ _)⟩)
        dsimp only [Pt.U, Pt.locs, Pt.cells, Pt.slots] at X689 l689 y689 z689 st689 hQ689
        subst l689 y689 z689
        obtain ⟨rfl, N689q, e689⟩ := hQ689
        have N689 := Fr.app N674 N689q
        refine own_S (mkF m 219 #[iv mk, iv xi, iv yi, .val (.long d0), .second, .val (.long d1), .second, .val (.long d2), .second, rv da, rv a, .val (.int 2), .val (.int 0), .val (.int 2), .val (.int 0), .val (.int 2), .unset] [(.int 0)]) (fun _ k => st689.trans k) ?_
        have hc690 : (0 : Int32) = (0 : Int32) := by decide
        refine own_S (mkF m 224 #[iv mk, iv xi, iv yi, .val (.long d0), .second, .val (.long d1), .second, .val (.long d2), .second, rv da, rv a, .val (.int 2), .val (.int 0), .val (.int 2), .val (.int 0), .val (.int 2), .unset] []) (fun _ k => XS.ifYes X689.here hx rfl (pc0 := 219) (pc' := 224) rfl (hb hby at_219) rfl ((if0 _ _).trans (teq hc690).1) (by decide) (by decide) k) ?_
        refine own_S (mkF m 226 #[iv mk, iv xi, iv yi, .val (.long d0), .second, .val (.long d1), .second, .val (.long d2), .second, rv da, rv a, .val (.int 2), .val (.int 0), .val (.int 2), .val (.int 0), .val (.int 2), .unset] [(.ref a)]) (fun _ k => XS.aload X689.here hx rfl (hb hby at_224) rfl rfl k) ?_
        obtain ⟨cq691, kq691, q691a, q691b, q691c⟩ := isOf hZ e689 F675
        obtain ⟨_, _, ⟨T691, L691, k691, n691⟩, -, X691, ⟨Lc691, hQ691, l691, y691, z691⟩, st691⟩ := X689.virtualBack hx (y := own_y9) (z := own_y9) hown (mvT hZ (own_g hw (i := 55) rfl)) (mvT hZ (own_g hw (i := 56) rfl)) (notFace_of_selects (args := #[]) (mvT hZ (own_g hw (i := 58) rfl))) (mvT hZ (own_g hw (i := 58) rfl)) (mvT hZ (own_g hw (i := 57) rfl)) (by decide) (backOf (W := 0) (own_rmpo1 l Z a0 hw [] (a) (da) (ha) (pa) (oa) (kd) (kh) (kp) (ko) ([(.long d0), (.long d1), (.long d2)]) ([(.int (0 : Int32)), (.int (0 : Int32)), g2]) ([(.int (0 : Int32)), (.int (-1 : Int32)), (.int (-1 : Int32))]) ([(.long ((of + (1 : Int64)) + (1 : Int64))), (.long o1), (.long (of + (1 : Int64)))]) (((of + (1 : Int64)) + (1 : Int64))) ((0 : Int32)) T674.heap n0 Z674 F675 F676 F677 F678 F679 F680 F681 F684 F686 F687 F685 G_a G_ha G_pa NE_a_da NE_a_ha NE_a_pa NE_a_oa NE_da_ha NE_da_pa NE_da_oa NE_ha_pa NE_ha_oa NE_pa_oa rfl (by decide) (show (0 : Nat) < 3 from by decide)) hZ (own_g hw (i := 59) rfl) (own_g hw (i := 3) rfl) (by decide) (by decide)) q691a q691c (g := (mkF m 226 #[iv mk, iv xi, iv yi, .val (.long d0), .second, .val (.long d1), .second, .val (.long d2), .second, rv da, rv a, .val (.int 2), .val (.int 0), .val (.int 2), .val (.int 0), .val (.int 2), .unset] [(.ref a)])) rfl (by rw [hml]; rfl) (Steps.refl _) (argsL := []) (rest := []) (lenOf own_pd___I rfl) rfl (by show 2 * 0 + _ ≤ _; exact Nat.le_of_eq rfl) (hb hby at_226) (fun _ _ => ⟨rfl, e689, (by decide : 5 + 0 ≤ _), (by decide : 18 + 0 ≤ _)⟩)
        dsimp only [Pt.U, Pt.locs, Pt.cells, Pt.slots] at X691 l691 y691 z691 st691 hQ691
        subst l691 y691 z691
        obtain ⟨rfl, N691q, K691q, F692, F693, F694, F695, F696, F697, F698, F699, F700⟩ := hQ691
        have N691 := Fr.app N689 N691q
        refine own_S (mkF m 229 #[iv mk, iv xi, iv yi, .val (.long d0), .second, .val (.long d1), .second, .val (.long d2), .second, rv da, rv a, .val (.int 2), .val (.int 0), .val (.int 2), .val (.int 0), .val (.int 2), .unset] [(.int 0)]) (fun _ k => st691.trans k) ?_
        have F701 := F684.keep K691q (ninS (Ne.symm NE_a_da) (ninS NE_da_ha (ninS NE_da_pa nin0)))
        have F702 := F685.keep K691q (ninS (Ne.symm NE_a_oa) (ninS (Ne.symm NE_ha_oa) (ninS (Ne.symm NE_pa_oa) nin0)))
        have Z691 : n0 ≤ T691.heap.size := Nat.le_trans Z674 K691q.1
        refine own_S (mkF m 231 #[iv mk, iv xi, iv yi, .val (.long d0), .second, .val (.long d1), .second, .val (.long d2), .second, rv da, rv a, .val (.int 2), .val (.int 0), .val (.int 2), .val (.int 0), .val (.int 2), .val (.int 0)] []) (fun _ k => XS.istore X691.here hx rfl (hb hby at_229) rfl (l' := #[iv mk, iv xi, iv yi, .val (.long d0), .second, .val (.long d1), .second, .val (.long d2), .second, rv da, rv a, .val (.int 2), .val (.int 0), .val (.int 2), .val (.int 0), .val (.int 2), .val (.int 0)]) rfl k) ?_
        refine own_S (mkF m 233 #[iv mk, iv xi, iv yi, .val (.long d0), .second, .val (.long d1), .second, .val (.long d2), .second, rv da, rv a, .val (.int 2), .val (.int 0), .val (.int 2), .val (.int 0), .val (.int 2), .val (.int 0)] [(.int 0)]) (fun _ k => XS.iload X691.here hx rfl (hb hby at_231) rfl k) ?_
        refine own_S (mkF m 235 #[iv mk, iv xi, iv yi, .val (.long d0), .second, .val (.long d1), .second, .val (.long d2), .second, rv da, rv a, .val (.int 2), .val (.int 0), .val (.int 2), .val (.int 0), .val (.int 2), .val (.int 0)] [(.int 0), (.int 0)]) (fun _ k => XS.iload X691.here hx rfl (hb hby at_233) rfl k) ?_
        have hc703 : (0 : Int32) = (0 : Int32) := by decide
        refine own_S (mkF m 238 #[iv mk, iv xi, iv yi, .val (.long d0), .second, .val (.long d1), .second, .val (.long d2), .second, rv da, rv a, .val (.int 2), .val (.int 0), .val (.int 2), .val (.int 0), .val (.int 2), .val (.int 0)] []) (fun _ k => XS.icmpNo X691.here hx rfl (hb hby at_235) rfl (teq hc703).2 k) ?_
        refine own_S (mkF m 240 #[iv mk, iv xi, iv yi, .val (.long d0), .second, .val (.long d1), .second, .val (.long d2), .second, rv da, rv a, .val (.int 2), .val (.int 0), .val (.int 2), .val (.int 0), .val (.int 2), .val (.int 0)] [(.ref a)]) (fun _ k => XS.aload X691.here hx rfl (hb hby at_238) rfl rfl k) ?_
        obtain ⟨cq704, kq704, q704a, q704b, q704c⟩ := isOf hZ rfl F692
        obtain ⟨_, _, ⟨T704, L704, k704, n704⟩, -, X704, ⟨Lc704, hQ704, l704, y704, z704⟩, st704⟩ := X691.virtualBack hx (y := own_y2) (z := own_y2) hown (mvT hZ (own_g hw (i := 30) rfl)) (mvT hZ (own_g hw (i := 31) rfl)) (notFace_of_selects (args := #[]) (mvT hZ (own_g hw (i := 33) rfl))) (mvT hZ (own_g hw (i := 33) rfl)) (mvT hZ (own_g hw (i := 32) rfl)) (by decide) (backOf (W := 0) (own_rmem l Z a0 hw [] (a) T691.heap n0 Z691 F697) hZ (own_g hw (i := 34) rfl) (own_g hw (i := 3) rfl) (by decide) (by decide)) q704a q704c (g := (mkF m 240 #[iv mk, iv xi, iv yi, .val (.long d0), .second, .val (.long d1), .second, .val (.long d2), .second, rv da, rv a, .val (.int 2), .val (.int 0), .val (.int 2), .val (.int 0), .val (.int 2), .val (.int 0)] [(.ref a)])) rfl (by rw [hml]; rfl) (Steps.refl _) (argsL := []) (rest := []) (lenOf own_pd___Z rfl) rfl (by show 2 * 0 + _ ≤ _; exact Nat.le_of_eq rfl) (hb hby at_240) (fun _ _ => ⟨rfl, rfl, (by decide : 5 + 0 ≤ _), (by decide : 18 + 0 ≤ _)⟩)
        dsimp only [Pt.U, Pt.locs, Pt.cells, Pt.slots] at X704 l704 y704 z704 st704 hQ704
        subst l704 y704 z704
        obtain ⟨rfl, N704q, e704⟩ := hQ704
        have N704 := Fr.app N691 N704q
        refine own_S (mkF m 243 #[iv mk, iv xi, iv yi, .val (.long d0), .second, .val (.long d1), .second, .val (.long d2), .second, rv da, rv a, .val (.int 2), .val (.int 0), .val (.int 2), .val (.int 0), .val (.int 2), .val (.int 0)] [(.int 1)]) (fun _ k => st704.trans k) ?_
        have hc705 : ¬ ((1 : Int32) = (0 : Int32)) := by decide
        refine own_S (mkF m 246 #[iv mk, iv xi, iv yi, .val (.long d0), .second, .val (.long d1), .second, .val (.long d2), .second, rv da, rv a, .val (.int 2), .val (.int 0), .val (.int 2), .val (.int 0), .val (.int 2), .val (.int 0)] []) (fun _ k => XS.ifNo X704.here hx rfl (hb hby at_243) rfl ((if0 _ _).trans (feq hc705).1) k) ?_
        refine own_S (mkF m 247 #[iv mk, iv xi, iv yi, .val (.long d0), .second, .val (.long d1), .second, .val (.long d2), .second, rv da, rv a, .val (.int 2), .val (.int 0), .val (.int 2), .val (.int 0), .val (.int 2), .val (.int 0)] [(.int 1)]) (fun _ k => XS.iconst X704.here hx rfl (hb hby at_246) k) ?_
        refine own_S (mkF m 251 #[iv mk, iv xi, iv yi, .val (.long d0), .second, .val (.long d1), .second, .val (.long d2), .second, rv da, rv a, .val (.int 2), .val (.int 0), .val (.int 2), .val (.int 0), .val (.int 2), .val (.int 0)] [(.int 1)]) (fun _ k => XS.goto X704.here hx rfl (pc0 := 247) (pc' := 251) rfl (hb hby at_247) (by decide) (by decide) k) ?_
        exact own_retN X704 hx hlk (t := .boolean) hret (by simp) (hb hby at_251) (by rw [e704]; exact ⟨rfl, N704, trivial⟩) (by decide) (by decide)
    · -- bv = 1
      subst q585_1
      obtain ⟨cq706, kq706, q706a, q706b, q706c⟩ := isOf hZ e1 P0
      obtain ⟨_, _, ⟨T706, L706, k706, n706⟩, -, X706, ⟨Lc706, hQ706, l706, y706, z706⟩, st706⟩ := X1.virtualBack hx (y := own_y6) (z := own_y6) hown (mvT hZ (own_g hw (i := 36) rfl)) (mvT hZ (own_g hw (i := 37) rfl)) (notFace_of_selects (args := #[]) (mvT hZ (own_g hw (i := 39) rfl))) (mvT hZ (own_g hw (i := 39) rfl)) (mvT hZ (own_g hw (i := 38) rfl)) (by decide) (backOf (W := 0) (own_rmofA l Z a0 hw [] (a) (da) (ha) (pa) (oa) (kd) (kh) (kp) (ko) ([(.long d0), (.long d1), (.long d2)]) ([g0, g1, g2]) ([(.int (-1 : Int32)), (.int (-1 : Int32)), (.int (-1 : Int32))]) ([(.long o0), (.long o1), (.long o2)]) ((2 : Int32)) (of) hh n0 Z0 P0 P1 P2 P3 P4 P5 P6 P7 P8 P9 P10 G_a G_ha G_pa G_oa NE_a_da NE_a_ha NE_a_pa NE_a_oa NE_da_ha NE_da_pa NE_da_oa NE_ha_pa NE_ha_oa NE_pa_oa (by decide) (show (2 : Nat) < 3 from by decide) (show (2 : Nat) < 3 from by decide) rfl (show (0 : Nat) < 3 from by decide)) hZ (own_g hw (i := 40) rfl) (own_g hw (i := 3) rfl) (by decide) (by decide)) q706a q706c (g := (mkF m 104 #[iv mk, iv xi, iv yi, .val (.long d0), .second, .val (.long d1), .second, .val (.long d2), .second, rv da, rv a, .val (.int 2), .val (.int 1), .unset, .unset, .unset, .unset] [(.int 2), (.ref a)])) rfl (by rw [hml]; rfl) (Steps.refl _) (argsL := [(.int 2)]) (rest := []) (lenOf own_pd__I_V rfl) rfl (by show 2 * 0 + _ ≤ _; exact Nat.le_of_eq rfl) (hb hby at_104) (fun _ _ => ⟨rfl, e1, (by decide : 5 + 0 ≤ _), (by decide : 18 + 0 ≤ _)⟩)
      dsimp only [Pt.U, Pt.locs, Pt.cells, Pt.slots] at X706 l706 y706 z706 st706 hQ706
      subst l706 y706 z706
      obtain ⟨rfl, N706q, K706q, F707, F708, F709, F710, F711, F712, F713, F714, F715, F716⟩ := hQ706
      have N706 := Fr.app N1 N706q
      refine own_S (mkF m 107 #[iv mk, iv xi, iv yi, .val (.long d0), .second, .val (.long d1), .second, .val (.long d2), .second, rv da, rv a, .val (.int 2), .val (.int 1), .unset, .unset, .unset, .unset] []) (fun _ k => st706.trans k) ?_
      have F717 := P7.keep K706q (ninS (Ne.symm NE_a_da) (ninS NE_da_ha (ninS NE_da_pa (ninS NE_da_oa nin0))))
      have Z706 : n0 ≤ T706.heap.size := Nat.le_trans Z0 K706q.1
      have F718 : own_Ar Z T706.heap ha kh .int [(.int (2 : Int32)), g1, g2] := F714
      have F719 : own_Ar Z T706.heap pa kp .int [(.int (-1 : Int32)), (.int (-1 : Int32)), (.int (0 : Int32))] := F715
      have F720 : own_Ar Z T706.heap oa ko .long [(.long o0), (.long o1), (.long (of + (1 : Int64)))] := F716
      refine own_S (mkF m 109 #[iv mk, iv xi, iv yi, .val (.long d0), .second, .val (.long d1), .second, .val (.long d2), .second, rv da, rv a, .val (.int 2), .val (.int 1), .unset, .unset, .unset, .unset] [(.ref a)]) (fun _ k => XS.aload X706.here hx rfl (hb hby at_107) rfl rfl k) ?_
      refine own_S (mkF m 111 #[iv mk, iv xi, iv yi, .val (.long d0), .second, .val (.long d1), .second, .val (.long d2), .second, rv da, rv a, .val (.int 2), .val (.int 1), .unset, .unset, .unset, .unset] [(.int 1), (.ref a)]) (fun _ k => XS.iload X706.here hx rfl (hb hby at_109) rfl k) ?_
      by_cases hB : (d1 < d2 ∨ (d1 = d2 ∧ (of + (1 : Int64)) < ((of + (1 : Int64)) + (1 : Int64))))
      ·
        obtain ⟨cq721, kq721, q721a, q721b, q721c⟩ := isOf hZ rfl F707
        obtain ⟨_, _, ⟨T721, L721, k721, n721⟩, -, X721, ⟨Lc721, hQ721, l721, y721, z721⟩, st721⟩ := X706.virtualBack hx (y := own_y6) (z := own_y6) hown (mvT hZ (own_g hw (i := 36) rfl)) (mvT hZ (own_g hw (i := 37) rfl)) (notFace_of_selects (args := #[]) (mvT hZ (own_g hw (i := 39) rfl))) (mvT hZ (own_g hw (i := 39) rfl)) (mvT hZ (own_g hw (i := 38) rfl)) (by decide) (backOf (W := 0) (own_rmof1m l Z a0 hw [] (a) (da) (ha) (pa) (oa) (kd) (kh) (kp) (ko) ([(.long d0), (.long d1), (.long d2)]) ([(.int (2 : Int32)), g1, g2]) ([(.int (-1 : Int32)), (.int (-1 : Int32)), (.int (0 : Int32))]) ([(.long o0), (.long o1), (.long (of + (1 : Int64)))]) ((1 : Int32)) ((2 : Int32)) ((of + (1 : Int64))) (d1) (d2) ((of + (1 : Int64))) T706.heap n0 Z706 F707 F708 F709 F710 F711 F712 F713 F717 F718 F719 F720 G_a G_ha G_pa G_oa NE_a_da NE_a_ha NE_a_pa NE_a_oa NE_da_ha NE_da_pa NE_da_oa NE_ha_pa NE_ha_oa NE_pa_oa (by decide) (show (1 : Nat) < 3 from by decide) (show (1 : Nat) < 3 from by decide) rfl (show (1 : Nat) < 3 from by decide) rfl (by decide) (show (2 : Nat) < 3 from by decide) (by decide) rfl rfl rfl hB) hZ (own_g hw (i := 40) rfl) (own_g hw (i := 3) rfl) (by decide) (by decide)) q721a q721c (g := (mkF m 111 #[iv mk, iv xi, iv yi, .val (.long d0), .second, .val (.long d1), .second, .val (.long d2), .second, rv da, rv a, .val (.int 2), .val (.int 1), .unset, .unset, .unset, .unset] [(.int 1), (.ref a)])) rfl (by rw [hml]; rfl) (Steps.refl _) (argsL := [(.int 1)]) (rest := []) (lenOf own_pd__I_V rfl) rfl (by show 2 * 0 + _ ≤ _; exact Nat.le_of_eq rfl) (hb hby at_111) (fun _ _ => ⟨rfl, rfl, (by decide : 5 + 0 ≤ _), (by decide : 18 + 0 ≤ _)⟩)
        dsimp only [Pt.U, Pt.locs, Pt.cells, Pt.slots] at X721 l721 y721 z721 st721 hQ721
        subst l721 y721 z721
        obtain ⟨rfl, N721q, K721q, F722, F723, F724, F725, F726, F727, F728, F729, F730, F731⟩ := hQ721
        have N721 := Fr.app N706 N721q
        refine own_S (mkF m 114 #[iv mk, iv xi, iv yi, .val (.long d0), .second, .val (.long d1), .second, .val (.long d2), .second, rv da, rv a, .val (.int 2), .val (.int 1), .unset, .unset, .unset, .unset] []) (fun _ k => st721.trans k) ?_
        have F732 := F717.keep K721q (ninS (Ne.symm NE_a_da) (ninS NE_da_ha (ninS NE_da_pa (ninS NE_da_oa nin0))))
        have Z721 : n0 ≤ T721.heap.size := Nat.le_trans Z706 K721q.1
        have F733 : own_Ar Z T721.heap ha kh .int [(.int (1 : Int32)), (.int (2 : Int32)), g2] := F729
        have F734 : own_Ar Z T721.heap pa kp .int [(.int (-1 : Int32)), (.int (0 : Int32)), (.int (1 : Int32))] := F730
        have F735 : own_Ar Z T721.heap oa ko .long [(.long o0), (.long ((of + (1 : Int64)) + (1 : Int64))), (.long (of + (1 : Int64)))] := F731
        refine own_S (mkF m 116 #[iv mk, iv xi, iv yi, .val (.long d0), .second, .val (.long d1), .second, .val (.long d2), .second, rv da, rv a, .val (.int 2), .val (.int 1), .unset, .unset, .unset, .unset] [(.ref a)]) (fun _ k => XS.aload X721.here hx rfl (hb hby at_114) rfl rfl k) ?_
        obtain ⟨cq736, kq736, q736a, q736b, q736c⟩ := isOf hZ rfl F722
        obtain ⟨_, _, ⟨T736, L736, k736, n736⟩, -, X736, ⟨Lc736, hQ736, l736, y736, z736⟩, st736⟩ := X721.virtualBack hx (y := own_y2) (z := own_y2) hown (mvT hZ (own_g hw (i := 30) rfl)) (mvT hZ (own_g hw (i := 31) rfl)) (notFace_of_selects (args := #[]) (mvT hZ (own_g hw (i := 33) rfl))) (mvT hZ (own_g hw (i := 33) rfl)) (mvT hZ (own_g hw (i := 32) rfl)) (by decide) (backOf (W := 0) (own_rmne l Z a0 hw [] (a) ((2 : Int32)) T721.heap n0 Z721 F727 (by decide)) hZ (own_g hw (i := 34) rfl) (own_g hw (i := 3) rfl) (by decide) (by decide)) q736a q736c (g := (mkF m 116 #[iv mk, iv xi, iv yi, .val (.long d0), .second, .val (.long d1), .second, .val (.long d2), .second, rv da, rv a, .val (.int 2), .val (.int 1), .unset, .unset, .unset, .unset] [(.ref a)])) rfl (by rw [hml]; rfl) (Steps.refl _) (argsL := []) (rest := []) (lenOf own_pd___Z rfl) rfl (by show 2 * 0 + _ ≤ _; exact Nat.le_of_eq rfl) (hb hby at_116) (fun _ _ => ⟨rfl, rfl, (by decide : 5 + 0 ≤ _), (by decide : 18 + 0 ≤ _)⟩)
        dsimp only [Pt.U, Pt.locs, Pt.cells, Pt.slots] at X736 l736 y736 z736 st736 hQ736
        subst l736 y736 z736
        obtain ⟨rfl, N736q, e736⟩ := hQ736
        have N736 := Fr.app N721 N736q
        refine own_S (mkF m 119 #[iv mk, iv xi, iv yi, .val (.long d0), .second, .val (.long d1), .second, .val (.long d2), .second, rv da, rv a, .val (.int 2), .val (.int 1), .unset, .unset, .unset, .unset] [(.int 0)]) (fun _ k => st736.trans k) ?_
        have hc737 : (0 : Int32) = (0 : Int32) := by decide
        refine own_S (mkF m 124 #[iv mk, iv xi, iv yi, .val (.long d0), .second, .val (.long d1), .second, .val (.long d2), .second, rv da, rv a, .val (.int 2), .val (.int 1), .unset, .unset, .unset, .unset] []) (fun _ k => XS.ifYes X736.here hx rfl (pc0 := 119) (pc' := 124) rfl (hb hby at_119) rfl ((if0 _ _).trans (teq hc737).1) (by decide) (by decide) k) ?_
        refine own_S (mkF m 126 #[iv mk, iv xi, iv yi, .val (.long d0), .second, .val (.long d1), .second, .val (.long d2), .second, rv da, rv a, .val (.int 2), .val (.int 1), .unset, .unset, .unset, .unset] [(.int 2)]) (fun _ k => XS.iload X736.here hx rfl (hb hby at_124) rfl k) ?_
        refine own_S (mkF m 128 #[iv mk, iv xi, iv yi, .val (.long d0), .second, .val (.long d1), .second, .val (.long d2), .second, rv da, rv a, .val (.int 2), .val (.int 1), .unset, .unset, .unset, .unset] [(.int 1), (.int 2)]) (fun _ k => XS.iload X736.here hx rfl (hb hby at_126) rfl k) ?_
        have hc738 : ¬ ((2 : Int32) = (1 : Int32)) := by decide
        refine own_S (mkF m 159 #[iv mk, iv xi, iv yi, .val (.long d0), .second, .val (.long d1), .second, .val (.long d2), .second, rv da, rv a, .val (.int 2), .val (.int 1), .unset, .unset, .unset, .unset] []) (fun _ k => XS.icmpYes X736.here hx rfl (pc0 := 128) (pc' := 159) rfl (hb hby at_128) rfl (feq hc738).2 (by decide) (by decide) k) ?_
        refine own_S (mkF m 161 #[iv mk, iv xi, iv yi, .val (.long d0), .second, .val (.long d1), .second, .val (.long d2), .second, rv da, rv a, .val (.int 2), .val (.int 1), .unset, .unset, .unset, .unset] [(.ref da)]) (fun _ k => XS.aload X736.here hx rfl (hb hby at_159) rfl rfl k) ?_
        refine own_S (mkF m 163 #[iv mk, iv xi, iv yi, .val (.long d0), .second, .val (.long d1), .second, .val (.long d2), .second, rv da, rv a, .val (.int 2), .val (.int 1), .unset, .unset, .unset, .unset] [(.int 2), (.ref da)]) (fun _ k => XS.iload X736.here hx rfl (hb hby at_161) rfl k) ?_
        refine own_S (mkF m 164 #[iv mk, iv xi, iv yi, .val (.long d0), .second, .val (.long d1), .second, .val (.long d2), .second, rv da, rv a, .val (.int 2), .val (.int 1), .unset, .unset, .unset, .unset] [(.long d2)]) (fun _ k => own_ldJ X736 hx hZ e736 F732 (by decide) rfl (g := (mkF m 163 #[iv mk, iv xi, iv yi, .val (.long d0), .second, .val (.long d1), .second, .val (.long d2), .second, rv da, rv a, .val (.int 2), .val (.int 1), .unset, .unset, .unset, .unset] [(.int 2), (.ref da)])) rfl rfl (hb hby at_163) _ k) ?_
        refine own_S (mkF m 166 #[iv mk, iv xi, iv yi, .val (.long d0), .second, .val (.long d1), .second, .val (.long d2), .second, rv da, rv a, .val (.int 2), .val (.int 1), .unset, .unset, .unset, .unset] [(.ref da), (.long d2)]) (fun _ k => XS.aload X736.here hx rfl (hb hby at_164) rfl rfl k) ?_
        refine own_S (mkF m 168 #[iv mk, iv xi, iv yi, .val (.long d0), .second, .val (.long d1), .second, .val (.long d2), .second, rv da, rv a, .val (.int 2), .val (.int 1), .unset, .unset, .unset, .unset] [(.int 1), (.ref da), (.long d2)]) (fun _ k => XS.iload X736.here hx rfl (hb hby at_166) rfl k) ?_
        refine own_S (mkF m 169 #[iv mk, iv xi, iv yi, .val (.long d0), .second, .val (.long d1), .second, .val (.long d2), .second, rv da, rv a, .val (.int 2), .val (.int 1), .unset, .unset, .unset, .unset] [(.long d1), (.long d2)]) (fun _ k => own_ldJ X736 hx hZ e736 F732 (by decide) rfl (g := (mkF m 168 #[iv mk, iv xi, iv yi, .val (.long d0), .second, .val (.long d1), .second, .val (.long d2), .second, rv da, rv a, .val (.int 2), .val (.int 1), .unset, .unset, .unset, .unset] [(.int 1), (.ref da), (.long d2)])) rfl rfl (hb hby at_168) _ k) ?_
        refine own_S (mkF m 170 #[iv mk, iv xi, iv yi, .val (.long d0), .second, .val (.long d1), .second, .val (.long d2), .second, rv da, rv a, .val (.int 2), .val (.int 1), .unset, .unset, .unset, .unset] [(.int (lcmpW d2 d1))]) (fun _ k => XS.lcmp X736.here hx rfl (hb hby at_169) rfl k) ?_
        have hc739 : ¬ (d2 < d1) := (own_nlt hB)
        refine own_S (mkF m 178 #[iv mk, iv xi, iv yi, .val (.long d0), .second, .val (.long d1), .second, .val (.long d2), .second, rv da, rv a, .val (.int 2), .val (.int 1), .unset, .unset, .unset, .unset] []) (fun _ k => XS.ifYes X736.here hx rfl (pc0 := 170) (pc' := 178) rfl (hb hby at_170) rfl ((if0 _ _).trans (flt (fun q => hc739 ((lw_lt d2 d1).mp q))).2.1) (by decide) (by decide) k) ?_
        refine own_S (mkF m 180 #[iv mk, iv xi, iv yi, .val (.long d0), .second, .val (.long d1), .second, .val (.long d2), .second, rv da, rv a, .val (.int 2), .val (.int 1), .unset, .unset, .unset, .unset] [(.int 1)]) (fun _ k => XS.iload X736.here hx rfl (hb hby at_178) rfl k) ?_
        refine own_S (mkF m 182 #[iv mk, iv xi, iv yi, .val (.long d0), .second, .val (.long d1), .second, .val (.long d2), .second, rv da, rv a, .val (.int 2), .val (.int 1), .val (.int 1), .unset, .unset, .unset] []) (fun _ k => XS.istore X736.here hx rfl (hb hby at_180) rfl (l' := #[iv mk, iv xi, iv yi, .val (.long d0), .second, .val (.long d1), .second, .val (.long d2), .second, rv da, rv a, .val (.int 2), .val (.int 1), .val (.int 1), .unset, .unset, .unset]) rfl k) ?_
        refine own_S (mkF m 184 #[iv mk, iv xi, iv yi, .val (.long d0), .second, .val (.long d1), .second, .val (.long d2), .second, rv da, rv a, .val (.int 2), .val (.int 1), .val (.int 1), .unset, .unset, .unset] [(.int 1)]) (fun _ k => XS.iload X736.here hx rfl (hb hby at_182) rfl k) ?_
        refine own_S (mkF m 186 #[iv mk, iv xi, iv yi, .val (.long d0), .second, .val (.long d1), .second, .val (.long d2), .second, rv da, rv a, .val (.int 2), .val (.int 1), .val (.int 1), .unset, .unset, .unset] [(.int 2), (.int 1)]) (fun _ k => XS.iload X736.here hx rfl (hb hby at_184) rfl k) ?_
        have hc740 : ¬ ((1 : Int32) = (2 : Int32)) := by decide
        refine own_S (mkF m 194 #[iv mk, iv xi, iv yi, .val (.long d0), .second, .val (.long d1), .second, .val (.long d2), .second, rv da, rv a, .val (.int 2), .val (.int 1), .val (.int 1), .unset, .unset, .unset] []) (fun _ k => XS.icmpYes X736.here hx rfl (pc0 := 186) (pc' := 194) rfl (hb hby at_186) rfl (feq hc740).2 (by decide) (by decide) k) ?_
        refine own_S (mkF m 196 #[iv mk, iv xi, iv yi, .val (.long d0), .second, .val (.long d1), .second, .val (.long d2), .second, rv da, rv a, .val (.int 2), .val (.int 1), .val (.int 1), .unset, .unset, .unset] [(.int 2)]) (fun _ k => XS.iload X736.here hx rfl (hb hby at_194) rfl k) ?_
        refine own_S (mkF m 198 #[iv mk, iv xi, iv yi, .val (.long d0), .second, .val (.long d1), .second, .val (.long d2), .second, rv da, rv a, .val (.int 2), .val (.int 1), .val (.int 1), .val (.int 2), .unset, .unset] []) (fun _ k => XS.istore X736.here hx rfl (hb hby at_196) rfl (l' := #[iv mk, iv xi, iv yi, .val (.long d0), .second, .val (.long d1), .second, .val (.long d2), .second, rv da, rv a, .val (.int 2), .val (.int 1), .val (.int 1), .val (.int 2), .unset, .unset]) rfl k) ?_
        refine own_S (mkF m 200 #[iv mk, iv xi, iv yi, .val (.long d0), .second, .val (.long d1), .second, .val (.long d2), .second, rv da, rv a, .val (.int 2), .val (.int 1), .val (.int 1), .val (.int 2), .unset, .unset] [(.ref a)]) (fun _ k => XS.aload X736.here hx rfl (hb hby at_198) rfl rfl k) ?_
        obtain ⟨cq741, kq741, q741a, q741b, q741c⟩ := isOf hZ e736 F722
        obtain ⟨_, _, ⟨T741, L741, k741, n741⟩, -, X741, ⟨Lc741, hQ741, l741, y741, z741⟩, st741⟩ := X736.virtualBack hx (y := own_y9) (z := own_y9) hown (mvT hZ (own_g hw (i := 55) rfl)) (mvT hZ (own_g hw (i := 56) rfl)) (notFace_of_selects (args := #[]) (mvT hZ (own_g hw (i := 58) rfl))) (mvT hZ (own_g hw (i := 58) rfl)) (mvT hZ (own_g hw (i := 57) rfl)) (by decide) (backOf (W := 0) (own_rmpo2 l Z a0 hw [] (a) (da) (ha) (pa) (oa) (kd) (kh) (kp) (ko) ([(.long d0), (.long d1), (.long d2)]) ([(.int (1 : Int32)), (.int (2 : Int32)), g2]) ([(.int (-1 : Int32)), (.int (0 : Int32)), (.int (1 : Int32))]) ([(.long o0), (.long ((of + (1 : Int64)) + (1 : Int64))), (.long (of + (1 : Int64)))]) (((of + (1 : Int64)) + (1 : Int64))) ((1 : Int32)) ((2 : Int32)) T721.heap n0 Z721 F722 F723 F724 F725 F726 F727 F728 F732 F733 F734 F735 G_a G_ha G_pa NE_a_da NE_a_ha NE_a_pa NE_a_oa NE_da_ha NE_da_pa NE_da_oa NE_ha_pa NE_ha_oa NE_pa_oa rfl (by decide) (show (1 : Nat) < 3 from by decide) rfl (by decide) (show (2 : Nat) < 3 from by decide)) hZ (own_g hw (i := 59) rfl) (own_g hw (i := 3) rfl) (by decide) (by decide)) q741a q741c (g := (mkF m 200 #[iv mk, iv xi, iv yi, .val (.long d0), .second, .val (.long d1), .second, .val (.long d2), .second, rv da, rv a, .val (.int 2), .val (.int 1), .val (.int 1), .val (.int 2), .unset, .unset] [(.ref a)])) rfl (by rw [hml]; rfl) (Steps.refl _) (argsL := []) (rest := []) (lenOf own_pd___I rfl) rfl (by show 2 * 0 + _ ≤ _; exact Nat.le_of_eq rfl) (hb hby at_200) (fun _ _ => ⟨rfl, e736, (by decide : 5 + 0 ≤ _), (by decide : 18 + 0 ≤ _)⟩)
        dsimp only [Pt.U, Pt.locs, Pt.cells, Pt.slots] at X741 l741 y741 z741 st741 hQ741
        subst l741 y741 z741
        obtain ⟨rfl, N741q, K741q, F742, F743, F744, F745, F746, F747, F748, F749, F750⟩ := hQ741
        have N741 := Fr.app N736 N741q
        refine own_S (mkF m 203 #[iv mk, iv xi, iv yi, .val (.long d0), .second, .val (.long d1), .second, .val (.long d2), .second, rv da, rv a, .val (.int 2), .val (.int 1), .val (.int 1), .val (.int 2), .unset, .unset] [(.int 1)]) (fun _ k => st741.trans k) ?_
        have F751 := F732.keep K741q (ninS (Ne.symm NE_a_da) (ninS NE_da_ha (ninS NE_da_pa nin0)))
        have F752 := F735.keep K741q (ninS (Ne.symm NE_a_oa) (ninS (Ne.symm NE_ha_oa) (ninS (Ne.symm NE_pa_oa) nin0)))
        have Z741 : n0 ≤ T741.heap.size := Nat.le_trans Z721 K741q.1
        have F753 : own_Ar Z T741.heap ha kh .int [(.int (2 : Int32)), (.int (2 : Int32)), g2] := F749
        have F754 : own_Ar Z T741.heap pa kp .int [(.int (-1 : Int32)), (.int (-1 : Int32)), (.int (0 : Int32))] := F750
        refine own_S (mkF m 205 #[iv mk, iv xi, iv yi, .val (.long d0), .second, .val (.long d1), .second, .val (.long d2), .second, rv da, rv a, .val (.int 2), .val (.int 1), .val (.int 1), .val (.int 2), .val (.int 1), .unset] []) (fun _ k => XS.istore X741.here hx rfl (hb hby at_203) rfl (l' := #[iv mk, iv xi, iv yi, .val (.long d0), .second, .val (.long d1), .second, .val (.long d2), .second, rv da, rv a, .val (.int 2), .val (.int 1), .val (.int 1), .val (.int 2), .val (.int 1), .unset]) rfl k) ?_
        refine own_S (mkF m 207 #[iv mk, iv xi, iv yi, .val (.long d0), .second, .val (.long d1), .second, .val (.long d2), .second, rv da, rv a, .val (.int 2), .val (.int 1), .val (.int 1), .val (.int 2), .val (.int 1), .unset] [(.int 1)]) (fun _ k => XS.iload X741.here hx rfl (hb hby at_205) rfl k) ?_
        refine own_S (mkF m 209 #[iv mk, iv xi, iv yi, .val (.long d0), .second, .val (.long d1), .second, .val (.long d2), .second, rv da, rv a, .val (.int 2), .val (.int 1), .val (.int 1), .val (.int 2), .val (.int 1), .unset] [(.int 1), (.int 1)]) (fun _ k => XS.iload X741.here hx rfl (hb hby at_207) rfl k) ?_
        have hc755 : (1 : Int32) = (1 : Int32) := by decide
        refine own_S (mkF m 214 #[iv mk, iv xi, iv yi, .val (.long d0), .second, .val (.long d1), .second, .val (.long d2), .second, rv da, rv a, .val (.int 2), .val (.int 1), .val (.int 1), .val (.int 2), .val (.int 1), .unset] []) (fun _ k => XS.icmpYes X741.here hx rfl (pc0 := 209) (pc' := 214) rfl (hb hby at_209) rfl (teq hc755).1 (by decide) (by decide) k) ?_
        refine own_S (mkF m 216 #[iv mk, iv xi, iv yi, .val (.long d0), .second, .val (.long d1), .second, .val (.long d2), .second, rv da, rv a, .val (.int 2), .val (.int 1), .val (.int 1), .val (.int 2), .val (.int 1), .unset] [(.ref a)]) (fun _ k => XS.aload X741.here hx rfl (hb hby at_214) rfl rfl k) ?_
        obtain ⟨cq756, kq756, q756a, q756b, q756c⟩ := isOf hZ rfl F742
        obtain ⟨_, _, ⟨T756, L756, k756, n756⟩, -, X756, ⟨Lc756, hQ756, l756, y756, z756⟩, st756⟩ := X741.virtualBack hx (y := own_y2) (z := own_y2) hown (mvT hZ (own_g hw (i := 30) rfl)) (mvT hZ (own_g hw (i := 31) rfl)) (notFace_of_selects (args := #[]) (mvT hZ (own_g hw (i := 33) rfl))) (mvT hZ (own_g hw (i := 33) rfl)) (mvT hZ (own_g hw (i := 32) rfl)) (by decide) (backOf (W := 0) (own_rmne l Z a0 hw [] (a) ((1 : Int32)) T741.heap n0 Z741 F747 (by decide)) hZ (own_g hw (i := 34) rfl) (own_g hw (i := 3) rfl) (by decide) (by decide)) q756a q756c (g := (mkF m 216 #[iv mk, iv xi, iv yi, .val (.long d0), .second, .val (.long d1), .second, .val (.long d2), .second, rv da, rv a, .val (.int 2), .val (.int 1), .val (.int 1), .val (.int 2), .val (.int 1), .unset] [(.ref a)])) rfl (by rw [hml]; rfl) (Steps.refl _) (argsL := []) (rest := []) (lenOf own_pd___Z rfl) rfl (by show 2 * 0 + _ ≤ _; exact Nat.le_of_eq rfl) (hb hby at_216) (fun _ _ => ⟨rfl, rfl, (by decide : 5 + 0 ≤ _), (by decide : 18 + 0 ≤ _)⟩)
        dsimp only [Pt.U, Pt.locs, Pt.cells, Pt.slots] at X756 l756 y756 z756 st756 hQ756
        subst l756 y756 z756
        obtain ⟨rfl, N756q, e756⟩ := hQ756
        have N756 := Fr.app N741 N756q
        refine own_S (mkF m 219 #[iv mk, iv xi, iv yi, .val (.long d0), .second, .val (.long d1), .second, .val (.long d2), .second, rv da, rv a, .val (.int 2), .val (.int 1), .val (.int 1), .val (.int 2), .val (.int 1), .unset] [(.int 0)]) (fun _ k => st756.trans k) ?_
        have hc757 : (0 : Int32) = (0 : Int32) := by decide
        refine own_S (mkF m 224 #[iv mk, iv xi, iv yi, .val (.long d0), .second, .val (.long d1), .second, .val (.long d2), .second, rv da, rv a, .val (.int 2), .val (.int 1), .val (.int 1), .val (.int 2), .val (.int 1), .unset] []) (fun _ k => XS.ifYes X756.here hx rfl (pc0 := 219) (pc' := 224) rfl (hb hby at_219) rfl ((if0 _ _).trans (teq hc757).1) (by decide) (by decide) k) ?_
        refine own_S (mkF m 226 #[iv mk, iv xi, iv yi, .val (.long d0), .second, .val (.long d1), .second, .val (.long d2), .second, rv da, rv a, .val (.int 2), .val (.int 1), .val (.int 1), .val (.int 2), .val (.int 1), .unset] [(.ref a)]) (fun _ k => XS.aload X756.here hx rfl (hb hby at_224) rfl rfl k) ?_
        obtain ⟨cq758, kq758, q758a, q758b, q758c⟩ := isOf hZ e756 F742
        obtain ⟨_, _, ⟨T758, L758, k758, n758⟩, -, X758, ⟨Lc758, hQ758, l758, y758, z758⟩, st758⟩ := X756.virtualBack hx (y := own_y9) (z := own_y9) hown (mvT hZ (own_g hw (i := 55) rfl)) (mvT hZ (own_g hw (i := 56) rfl)) (notFace_of_selects (args := #[]) (mvT hZ (own_g hw (i := 58) rfl))) (mvT hZ (own_g hw (i := 58) rfl)) (mvT hZ (own_g hw (i := 57) rfl)) (by decide) (backOf (W := 0) (own_rmpo1 l Z a0 hw [] (a) (da) (ha) (pa) (oa) (kd) (kh) (kp) (ko) ([(.long d0), (.long d1), (.long d2)]) ([(.int (2 : Int32)), (.int (2 : Int32)), g2]) ([(.int (-1 : Int32)), (.int (-1 : Int32)), (.int (0 : Int32))]) ([(.long o0), (.long ((of + (1 : Int64)) + (1 : Int64))), (.long (of + (1 : Int64)))]) (((of + (1 : Int64)) + (1 : Int64))) ((2 : Int32)) T741.heap n0 Z741 F742 F743 F744 F745 F746 F747 F748 F751 F753 F754 F752 G_a G_ha G_pa NE_a_da NE_a_ha NE_a_pa NE_a_oa NE_da_ha NE_da_pa NE_da_oa NE_ha_pa NE_ha_oa NE_pa_oa rfl (by decide) (show (2 : Nat) < 3 from by decide)) hZ (own_g hw (i := 59) rfl) (own_g hw (i := 3) rfl) (by decide) (by decide)) q758a q758c (g := (mkF m 226 #[iv mk, iv xi, iv yi, .val (.long d0), .second, .val (.long d1), .second, .val (.long d2), .second, rv da, rv a, .val (.int 2), .val (.int 1), .val (.int 1), .val (.int 2), .val (.int 1), .unset] [(.ref a)])) rfl (by rw [hml]; rfl) (Steps.refl _) (argsL := []) (rest := []) (lenOf own_pd___I rfl) rfl (by show 2 * 0 + _ ≤ _; exact Nat.le_of_eq rfl) (hb hby at_226) (fun _ _ => ⟨rfl, e756, (by decide : 5 + 0 ≤ _), (by decide : 18 + 0 ≤ _)⟩)
        dsimp only [Pt.U, Pt.locs, Pt.cells, Pt.slots] at X758 l758 y758 z758 st758 hQ758
        subst l758 y758 z758
        obtain ⟨rfl, N758q, K758q, F759, F760, F761, F762, F763, F764, F765, F766, F767⟩ := hQ758
        have N758 := Fr.app N756 N758q
        refine own_S (mkF m 229 #[iv mk, iv xi, iv yi, .val (.long d0), .second, .val (.long d1), .second, .val (.long d2), .second, rv da, rv a, .val (.int 2), .val (.int 1), .val (.int 1), .val (.int 2), .val (.int 1), .unset] [(.int 2)]) (fun _ k => st758.trans k) ?_
        have F768 := F751.keep K758q (ninS (Ne.symm NE_a_da) (ninS NE_da_ha (ninS NE_da_pa nin0)))
        have F769 := F752.keep K758q (ninS (Ne.symm NE_a_oa) (ninS (Ne.symm NE_ha_oa) (ninS (Ne.symm NE_pa_oa) nin0)))
        have Z758 : n0 ≤ T758.heap.size := Nat.le_trans Z741 K758q.1
        refine own_S (mkF m 231 #[iv mk, iv xi, iv yi, .val (.long d0), .second, .val (.long d1), .second, .val (.long d2), .second, rv da, rv a, .val (.int 2), .val (.int 1), .val (.int 1), .val (.int 2), .val (.int 1), .val (.int 2)] []) (fun _ k => XS.istore X758.here hx rfl (hb hby at_229) rfl (l' := #[iv mk, iv xi, iv yi, .val (.long d0), .second, .val (.long d1), .second, .val (.long d2), .second, rv da, rv a, .val (.int 2), .val (.int 1), .val (.int 1), .val (.int 2), .val (.int 1), .val (.int 2)]) rfl k) ?_
        refine own_S (mkF m 233 #[iv mk, iv xi, iv yi, .val (.long d0), .second, .val (.long d1), .second, .val (.long d2), .second, rv da, rv a, .val (.int 2), .val (.int 1), .val (.int 1), .val (.int 2), .val (.int 1), .val (.int 2)] [(.int 2)]) (fun _ k => XS.iload X758.here hx rfl (hb hby at_231) rfl k) ?_
        refine own_S (mkF m 235 #[iv mk, iv xi, iv yi, .val (.long d0), .second, .val (.long d1), .second, .val (.long d2), .second, rv da, rv a, .val (.int 2), .val (.int 1), .val (.int 1), .val (.int 2), .val (.int 1), .val (.int 2)] [(.int 2), (.int 2)]) (fun _ k => XS.iload X758.here hx rfl (hb hby at_233) rfl k) ?_
        have hc770 : (2 : Int32) = (2 : Int32) := by decide
        refine own_S (mkF m 238 #[iv mk, iv xi, iv yi, .val (.long d0), .second, .val (.long d1), .second, .val (.long d2), .second, rv da, rv a, .val (.int 2), .val (.int 1), .val (.int 1), .val (.int 2), .val (.int 1), .val (.int 2)] []) (fun _ k => XS.icmpNo X758.here hx rfl (hb hby at_235) rfl (teq hc770).2 k) ?_
        refine own_S (mkF m 240 #[iv mk, iv xi, iv yi, .val (.long d0), .second, .val (.long d1), .second, .val (.long d2), .second, rv da, rv a, .val (.int 2), .val (.int 1), .val (.int 1), .val (.int 2), .val (.int 1), .val (.int 2)] [(.ref a)]) (fun _ k => XS.aload X758.here hx rfl (hb hby at_238) rfl rfl k) ?_
        obtain ⟨cq771, kq771, q771a, q771b, q771c⟩ := isOf hZ rfl F759
        obtain ⟨_, _, ⟨T771, L771, k771, n771⟩, -, X771, ⟨Lc771, hQ771, l771, y771, z771⟩, st771⟩ := X758.virtualBack hx (y := own_y2) (z := own_y2) hown (mvT hZ (own_g hw (i := 30) rfl)) (mvT hZ (own_g hw (i := 31) rfl)) (notFace_of_selects (args := #[]) (mvT hZ (own_g hw (i := 33) rfl))) (mvT hZ (own_g hw (i := 33) rfl)) (mvT hZ (own_g hw (i := 32) rfl)) (by decide) (backOf (W := 0) (own_rmem l Z a0 hw [] (a) T758.heap n0 Z758 F764) hZ (own_g hw (i := 34) rfl) (own_g hw (i := 3) rfl) (by decide) (by decide)) q771a q771c (g := (mkF m 240 #[iv mk, iv xi, iv yi, .val (.long d0), .second, .val (.long d1), .second, .val (.long d2), .second, rv da, rv a, .val (.int 2), .val (.int 1), .val (.int 1), .val (.int 2), .val (.int 1), .val (.int 2)] [(.ref a)])) rfl (by rw [hml]; rfl) (Steps.refl _) (argsL := []) (rest := []) (lenOf own_pd___Z rfl) rfl (by show 2 * 0 + _ ≤ _; exact Nat.le_of_eq rfl) (hb hby at_240) (fun _ _ => ⟨rfl, rfl, (by decide : 5 + 0 ≤ _), (by decide : 18 + 0 ≤ _)⟩)
        dsimp only [Pt.U, Pt.locs, Pt.cells, Pt.slots] at X771 l771 y771 z771 st771 hQ771
        subst l771 y771 z771
        obtain ⟨rfl, N771q, e771⟩ := hQ771
        have N771 := Fr.app N758 N771q
        refine own_S (mkF m 243 #[iv mk, iv xi, iv yi, .val (.long d0), .second, .val (.long d1), .second, .val (.long d2), .second, rv da, rv a, .val (.int 2), .val (.int 1), .val (.int 1), .val (.int 2), .val (.int 1), .val (.int 2)] [(.int 1)]) (fun _ k => st771.trans k) ?_
        have hc772 : ¬ ((1 : Int32) = (0 : Int32)) := by decide
        refine own_S (mkF m 246 #[iv mk, iv xi, iv yi, .val (.long d0), .second, .val (.long d1), .second, .val (.long d2), .second, rv da, rv a, .val (.int 2), .val (.int 1), .val (.int 1), .val (.int 2), .val (.int 1), .val (.int 2)] []) (fun _ k => XS.ifNo X771.here hx rfl (hb hby at_243) rfl ((if0 _ _).trans (feq hc772).1) k) ?_
        refine own_S (mkF m 247 #[iv mk, iv xi, iv yi, .val (.long d0), .second, .val (.long d1), .second, .val (.long d2), .second, rv da, rv a, .val (.int 2), .val (.int 1), .val (.int 1), .val (.int 2), .val (.int 1), .val (.int 2)] [(.int 1)]) (fun _ k => XS.iconst X771.here hx rfl (hb hby at_246) k) ?_
        refine own_S (mkF m 251 #[iv mk, iv xi, iv yi, .val (.long d0), .second, .val (.long d1), .second, .val (.long d2), .second, rv da, rv a, .val (.int 2), .val (.int 1), .val (.int 1), .val (.int 2), .val (.int 1), .val (.int 2)] [(.int 1)]) (fun _ k => XS.goto X771.here hx rfl (pc0 := 247) (pc' := 251) rfl (hb hby at_247) (by decide) (by decide) k) ?_
        exact own_retN X771 hx hlk (t := .boolean) hret (by simp) (hb hby at_251) (by rw [e771]; exact ⟨rfl, N771, trivial⟩) (by decide) (by decide)
      ·
        obtain ⟨cq773, kq773, q773a, q773b, q773c⟩ := isOf hZ rfl F707
        obtain ⟨_, _, ⟨T773, L773, k773, n773⟩, -, X773, ⟨Lc773, hQ773, l773, y773, z773⟩, st773⟩ := X706.virtualBack hx (y := own_y6) (z := own_y6) hown (mvT hZ (own_g hw (i := 36) rfl)) (mvT hZ (own_g hw (i := 37) rfl)) (notFace_of_selects (args := #[]) (mvT hZ (own_g hw (i := 39) rfl))) (mvT hZ (own_g hw (i := 39) rfl)) (mvT hZ (own_g hw (i := 38) rfl)) (by decide) (backOf (W := 0) (own_rmof1n l Z a0 hw [] (a) (da) (ha) (pa) (oa) (kd) (kh) (kp) (ko) ([(.long d0), (.long d1), (.long d2)]) ([(.int (2 : Int32)), g1, g2]) ([(.int (-1 : Int32)), (.int (-1 : Int32)), (.int (0 : Int32))]) ([(.long o0), (.long o1), (.long (of + (1 : Int64)))]) ((1 : Int32)) ((2 : Int32)) ((of + (1 : Int64))) (d1) (d2) ((of + (1 : Int64))) T706.heap n0 Z706 F707 F708 F709 F710 F711 F712 F713 F717 F718 F719 F720 G_a G_ha G_pa G_oa NE_a_da NE_a_ha NE_a_pa NE_a_oa NE_da_ha NE_da_pa NE_da_oa NE_ha_pa NE_ha_oa NE_pa_oa (by decide) (show (1 : Nat) < 3 from by decide) (show (1 : Nat) < 3 from by decide) rfl (show (1 : Nat) < 3 from by decide) rfl (by decide) (show (2 : Nat) < 3 from by decide) (by decide) rfl rfl rfl hB) hZ (own_g hw (i := 40) rfl) (own_g hw (i := 3) rfl) (by decide) (by decide)) q773a q773c (g := (mkF m 111 #[iv mk, iv xi, iv yi, .val (.long d0), .second, .val (.long d1), .second, .val (.long d2), .second, rv da, rv a, .val (.int 2), .val (.int 1), .unset, .unset, .unset, .unset] [(.int 1), (.ref a)])) rfl (by rw [hml]; rfl) (Steps.refl _) (argsL := [(.int 1)]) (rest := []) (lenOf own_pd__I_V rfl) rfl (by show 2 * 0 + _ ≤ _; exact Nat.le_of_eq rfl) (hb hby at_111) (fun _ _ => ⟨rfl, rfl, (by decide : 5 + 0 ≤ _), (by decide : 18 + 0 ≤ _)⟩)
        dsimp only [Pt.U, Pt.locs, Pt.cells, Pt.slots] at X773 l773 y773 z773 st773 hQ773
        subst l773 y773 z773
        obtain ⟨rfl, N773q, K773q, F774, F775, F776, F777, F778, F779, F780, F781, F782, F783⟩ := hQ773
        have N773 := Fr.app N706 N773q
        refine own_S (mkF m 114 #[iv mk, iv xi, iv yi, .val (.long d0), .second, .val (.long d1), .second, .val (.long d2), .second, rv da, rv a, .val (.int 2), .val (.int 1), .unset, .unset, .unset, .unset] []) (fun _ k => st773.trans k) ?_
        have F784 := F717.keep K773q (ninS (Ne.symm NE_a_da) (ninS NE_da_ha (ninS NE_da_pa (ninS NE_da_oa nin0))))
        have Z773 : n0 ≤ T773.heap.size := Nat.le_trans Z706 K773q.1
        have F785 : own_Ar Z T773.heap ha kh .int [(.int (2 : Int32)), (.int (1 : Int32)), g2] := F781
        have F786 : own_Ar Z T773.heap pa kp .int [(.int (-1 : Int32)), (.int (1 : Int32)), (.int (0 : Int32))] := F782
        have F787 : own_Ar Z T773.heap oa ko .long [(.long o0), (.long ((of + (1 : Int64)) + (1 : Int64))), (.long (of + (1 : Int64)))] := F783
        refine own_S (mkF m 116 #[iv mk, iv xi, iv yi, .val (.long d0), .second, .val (.long d1), .second, .val (.long d2), .second, rv da, rv a, .val (.int 2), .val (.int 1), .unset, .unset, .unset, .unset] [(.ref a)]) (fun _ k => XS.aload X773.here hx rfl (hb hby at_114) rfl rfl k) ?_
        obtain ⟨cq788, kq788, q788a, q788b, q788c⟩ := isOf hZ rfl F774
        obtain ⟨_, _, ⟨T788, L788, k788, n788⟩, -, X788, ⟨Lc788, hQ788, l788, y788, z788⟩, st788⟩ := X773.virtualBack hx (y := own_y2) (z := own_y2) hown (mvT hZ (own_g hw (i := 30) rfl)) (mvT hZ (own_g hw (i := 31) rfl)) (notFace_of_selects (args := #[]) (mvT hZ (own_g hw (i := 33) rfl))) (mvT hZ (own_g hw (i := 33) rfl)) (mvT hZ (own_g hw (i := 32) rfl)) (by decide) (backOf (W := 0) (own_rmne l Z a0 hw [] (a) ((2 : Int32)) T773.heap n0 Z773 F779 (by decide)) hZ (own_g hw (i := 34) rfl) (own_g hw (i := 3) rfl) (by decide) (by decide)) q788a q788c (g := (mkF m 116 #[iv mk, iv xi, iv yi, .val (.long d0), .second, .val (.long d1), .second, .val (.long d2), .second, rv da, rv a, .val (.int 2), .val (.int 1), .unset, .unset, .unset, .unset] [(.ref a)])) rfl (by rw [hml]; rfl) (Steps.refl _) (argsL := []) (rest := []) (lenOf own_pd___Z rfl) rfl (by show 2 * 0 + _ ≤ _; exact Nat.le_of_eq rfl) (hb hby at_116) (fun _ _ => ⟨rfl, rfl, (by decide : 5 + 0 ≤ _), (by decide : 18 + 0 ≤ _)⟩)
        dsimp only [Pt.U, Pt.locs, Pt.cells, Pt.slots] at X788 l788 y788 z788 st788 hQ788
        subst l788 y788 z788
        obtain ⟨rfl, N788q, e788⟩ := hQ788
        have N788 := Fr.app N773 N788q
        refine own_S (mkF m 119 #[iv mk, iv xi, iv yi, .val (.long d0), .second, .val (.long d1), .second, .val (.long d2), .second, rv da, rv a, .val (.int 2), .val (.int 1), .unset, .unset, .unset, .unset] [(.int 0)]) (fun _ k => st788.trans k) ?_
        have hc789 : (0 : Int32) = (0 : Int32) := by decide
        refine own_S (mkF m 124 #[iv mk, iv xi, iv yi, .val (.long d0), .second, .val (.long d1), .second, .val (.long d2), .second, rv da, rv a, .val (.int 2), .val (.int 1), .unset, .unset, .unset, .unset] []) (fun _ k => XS.ifYes X788.here hx rfl (pc0 := 119) (pc' := 124) rfl (hb hby at_119) rfl ((if0 _ _).trans (teq hc789).1) (by decide) (by decide) k) ?_
        refine own_S (mkF m 126 #[iv mk, iv xi, iv yi, .val (.long d0), .second, .val (.long d1), .second, .val (.long d2), .second, rv da, rv a, .val (.int 2), .val (.int 1), .unset, .unset, .unset, .unset] [(.int 2)]) (fun _ k => XS.iload X788.here hx rfl (hb hby at_124) rfl k) ?_
        refine own_S (mkF m 128 #[iv mk, iv xi, iv yi, .val (.long d0), .second, .val (.long d1), .second, .val (.long d2), .second, rv da, rv a, .val (.int 2), .val (.int 1), .unset, .unset, .unset, .unset] [(.int 1), (.int 2)]) (fun _ k => XS.iload X788.here hx rfl (hb hby at_126) rfl k) ?_
        have hc790 : ¬ ((2 : Int32) = (1 : Int32)) := by decide
        refine own_S (mkF m 159 #[iv mk, iv xi, iv yi, .val (.long d0), .second, .val (.long d1), .second, .val (.long d2), .second, rv da, rv a, .val (.int 2), .val (.int 1), .unset, .unset, .unset, .unset] []) (fun _ k => XS.icmpYes X788.here hx rfl (pc0 := 128) (pc' := 159) rfl (hb hby at_128) rfl (feq hc790).2 (by decide) (by decide) k) ?_
        refine own_S (mkF m 161 #[iv mk, iv xi, iv yi, .val (.long d0), .second, .val (.long d1), .second, .val (.long d2), .second, rv da, rv a, .val (.int 2), .val (.int 1), .unset, .unset, .unset, .unset] [(.ref da)]) (fun _ k => XS.aload X788.here hx rfl (hb hby at_159) rfl rfl k) ?_
        refine own_S (mkF m 163 #[iv mk, iv xi, iv yi, .val (.long d0), .second, .val (.long d1), .second, .val (.long d2), .second, rv da, rv a, .val (.int 2), .val (.int 1), .unset, .unset, .unset, .unset] [(.int 2), (.ref da)]) (fun _ k => XS.iload X788.here hx rfl (hb hby at_161) rfl k) ?_
        refine own_S (mkF m 164 #[iv mk, iv xi, iv yi, .val (.long d0), .second, .val (.long d1), .second, .val (.long d2), .second, rv da, rv a, .val (.int 2), .val (.int 1), .unset, .unset, .unset, .unset] [(.long d2)]) (fun _ k => own_ldJ X788 hx hZ e788 F784 (by decide) rfl (g := (mkF m 163 #[iv mk, iv xi, iv yi, .val (.long d0), .second, .val (.long d1), .second, .val (.long d2), .second, rv da, rv a, .val (.int 2), .val (.int 1), .unset, .unset, .unset, .unset] [(.int 2), (.ref da)])) rfl rfl (hb hby at_163) _ k) ?_
        refine own_S (mkF m 166 #[iv mk, iv xi, iv yi, .val (.long d0), .second, .val (.long d1), .second, .val (.long d2), .second, rv da, rv a, .val (.int 2), .val (.int 1), .unset, .unset, .unset, .unset] [(.ref da), (.long d2)]) (fun _ k => XS.aload X788.here hx rfl (hb hby at_164) rfl rfl k) ?_
        refine own_S (mkF m 168 #[iv mk, iv xi, iv yi, .val (.long d0), .second, .val (.long d1), .second, .val (.long d2), .second, rv da, rv a, .val (.int 2), .val (.int 1), .unset, .unset, .unset, .unset] [(.int 1), (.ref da), (.long d2)]) (fun _ k => XS.iload X788.here hx rfl (hb hby at_166) rfl k) ?_
        refine own_S (mkF m 169 #[iv mk, iv xi, iv yi, .val (.long d0), .second, .val (.long d1), .second, .val (.long d2), .second, rv da, rv a, .val (.int 2), .val (.int 1), .unset, .unset, .unset, .unset] [(.long d1), (.long d2)]) (fun _ k => own_ldJ X788 hx hZ e788 F784 (by decide) rfl (g := (mkF m 168 #[iv mk, iv xi, iv yi, .val (.long d0), .second, .val (.long d1), .second, .val (.long d2), .second, rv da, rv a, .val (.int 2), .val (.int 1), .unset, .unset, .unset, .unset] [(.int 1), (.ref da), (.long d2)])) rfl rfl (hb hby at_168) _ k) ?_
        refine own_S (mkF m 170 #[iv mk, iv xi, iv yi, .val (.long d0), .second, .val (.long d1), .second, .val (.long d2), .second, rv da, rv a, .val (.int 2), .val (.int 1), .unset, .unset, .unset, .unset] [(.int (lcmpW d2 d1))]) (fun _ k => XS.lcmp X788.here hx rfl (hb hby at_169) rfl k) ?_
        have hc791 : d2 < d1 := (own_lt hof hB)
        refine own_S (mkF m 173 #[iv mk, iv xi, iv yi, .val (.long d0), .second, .val (.long d1), .second, .val (.long d2), .second, rv da, rv a, .val (.int 2), .val (.int 1), .unset, .unset, .unset, .unset] []) (fun _ k => XS.ifNo X788.here hx rfl (hb hby at_170) rfl ((if0 _ _).trans (tlt ((lw_lt d2 d1).mpr hc791)).2.1) k) ?_
        refine own_S (mkF m 175 #[iv mk, iv xi, iv yi, .val (.long d0), .second, .val (.long d1), .second, .val (.long d2), .second, rv da, rv a, .val (.int 2), .val (.int 1), .unset, .unset, .unset, .unset] [(.int 2)]) (fun _ k => XS.iload X788.here hx rfl (hb hby at_173) rfl k) ?_
        refine own_S (mkF m 180 #[iv mk, iv xi, iv yi, .val (.long d0), .second, .val (.long d1), .second, .val (.long d2), .second, rv da, rv a, .val (.int 2), .val (.int 1), .unset, .unset, .unset, .unset] [(.int 2)]) (fun _ k => XS.goto X788.here hx rfl (pc0 := 175) (pc' := 180) rfl (hb hby at_175) (by decide) (by decide) k) ?_
        refine own_S (mkF m 182 #[iv mk, iv xi, iv yi, .val (.long d0), .second, .val (.long d1), .second, .val (.long d2), .second, rv da, rv a, .val (.int 2), .val (.int 1), .val (.int 2), .unset, .unset, .unset] []) (fun _ k => XS.istore X788.here hx rfl (hb hby at_180) rfl (l' := #[iv mk, iv xi, iv yi, .val (.long d0), .second, .val (.long d1), .second, .val (.long d2), .second, rv da, rv a, .val (.int 2), .val (.int 1), .val (.int 2), .unset, .unset, .unset]) rfl k) ?_
        refine own_S (mkF m 184 #[iv mk, iv xi, iv yi, .val (.long d0), .second, .val (.long d1), .second, .val (.long d2), .second, rv da, rv a, .val (.int 2), .val (.int 1), .val (.int 2), .unset, .unset, .unset] [(.int 2)]) (fun _ k => XS.iload X788.here hx rfl (hb hby at_182) rfl k) ?_
        refine own_S (mkF m 186 #[iv mk, iv xi, iv yi, .val (.long d0), .second, .val (.long d1), .second, .val (.long d2), .second, rv da, rv a, .val (.int 2), .val (.int 1), .val (.int 2), .unset, .unset, .unset] [(.int 2), (.int 2)]) (fun _ k => XS.iload X788.here hx rfl (hb hby at_184) rfl k) ?_
        have hc792 : (2 : Int32) = (2 : Int32) := by decide
        refine own_S (mkF m 189 #[iv mk, iv xi, iv yi, .val (.long d0), .second, .val (.long d1), .second, .val (.long d2), .second, rv da, rv a, .val (.int 2), .val (.int 1), .val (.int 2), .unset, .unset, .unset] []) (fun _ k => XS.icmpNo X788.here hx rfl (hb hby at_186) rfl (teq hc792).2 k) ?_
        refine own_S (mkF m 191 #[iv mk, iv xi, iv yi, .val (.long d0), .second, .val (.long d1), .second, .val (.long d2), .second, rv da, rv a, .val (.int 2), .val (.int 1), .val (.int 2), .unset, .unset, .unset] [(.int 1)]) (fun _ k => XS.iload X788.here hx rfl (hb hby at_189) rfl k) ?_
        refine own_S (mkF m 196 #[iv mk, iv xi, iv yi, .val (.long d0), .second, .val (.long d1), .second, .val (.long d2), .second, rv da, rv a, .val (.int 2), .val (.int 1), .val (.int 2), .unset, .unset, .unset] [(.int 1)]) (fun _ k => XS.goto X788.here hx rfl (pc0 := 191) (pc' := 196) rfl (hb hby at_191) (by decide) (by decide) k) ?_
        refine own_S (mkF m 198 #[iv mk, iv xi, iv yi, .val (.long d0), .second, .val (.long d1), .second, .val (.long d2), .second, rv da, rv a, .val (.int 2), .val (.int 1), .val (.int 2), .val (.int 1), .unset, .unset] []) (fun _ k => XS.istore X788.here hx rfl (hb hby at_196) rfl (l' := #[iv mk, iv xi, iv yi, .val (.long d0), .second, .val (.long d1), .second, .val (.long d2), .second, rv da, rv a, .val (.int 2), .val (.int 1), .val (.int 2), .val (.int 1), .unset, .unset]) rfl k) ?_
        refine own_S (mkF m 200 #[iv mk, iv xi, iv yi, .val (.long d0), .second, .val (.long d1), .second, .val (.long d2), .second, rv da, rv a, .val (.int 2), .val (.int 1), .val (.int 2), .val (.int 1), .unset, .unset] [(.ref a)]) (fun _ k => XS.aload X788.here hx rfl (hb hby at_198) rfl rfl k) ?_
        obtain ⟨cq793, kq793, q793a, q793b, q793c⟩ := isOf hZ e788 F774
        obtain ⟨_, _, ⟨T793, L793, k793, n793⟩, -, X793, ⟨Lc793, hQ793, l793, y793, z793⟩, st793⟩ := X788.virtualBack hx (y := own_y9) (z := own_y9) hown (mvT hZ (own_g hw (i := 55) rfl)) (mvT hZ (own_g hw (i := 56) rfl)) (notFace_of_selects (args := #[]) (mvT hZ (own_g hw (i := 58) rfl))) (mvT hZ (own_g hw (i := 58) rfl)) (mvT hZ (own_g hw (i := 57) rfl)) (by decide) (backOf (W := 0) (own_rmpo2 l Z a0 hw [] (a) (da) (ha) (pa) (oa) (kd) (kh) (kp) (ko) ([(.long d0), (.long d1), (.long d2)]) ([(.int (2 : Int32)), (.int (1 : Int32)), g2]) ([(.int (-1 : Int32)), (.int (1 : Int32)), (.int (0 : Int32))]) ([(.long o0), (.long ((of + (1 : Int64)) + (1 : Int64))), (.long (of + (1 : Int64)))]) (((of + (1 : Int64)) + (1 : Int64))) ((2 : Int32)) ((1 : Int32)) T773.heap n0 Z773 F774 F775 F776 F777 F778 F779 F780 F784 F785 F786 F787 G_a G_ha G_pa NE_a_da NE_a_ha NE_a_pa NE_a_oa NE_da_ha NE_da_pa NE_da_oa NE_ha_pa NE_ha_oa NE_pa_oa rfl (by decide) (show (2 : Nat) < 3 from by decide) rfl (by decide) (show (1 : Nat) < 3 from by decide)) hZ (own_g hw (i := 59) rfl) (own_g hw (i := 3) rfl) (by decide) (by decide)) q793a q793c (g := (mkF m 200 #[iv mk, iv xi, iv yi, .val (.long d0), .second, .val (.long d1), .second, .val (.long d2), .second, rv da, rv a, .val (.int 2), .val (.int 1), .val (.int 2), .val (.int 1), .unset, .unset] [(.ref a)])) rfl (by rw [hml]; rfl) (Steps.refl _) (argsL := []) (rest := []) (lenOf own_pd___I rfl) rfl (by show 2 * 0 + _ ≤ _; exact Nat.le_of_eq rfl) (hb hby at_200) (fun _ _ => ⟨rfl, e788, (by decide : 5 + 0 ≤ _), (by decide : 18 + 0 ≤ _)⟩)
        dsimp only [Pt.U, Pt.locs, Pt.cells, Pt.slots] at X793 l793 y793 z793 st793 hQ793
        subst l793 y793 z793
        obtain ⟨rfl, N793q, K793q, F794, F795, F796, F797, F798, F799, F800, F801, F802⟩ := hQ793
        have N793 := Fr.app N788 N793q
        refine own_S (mkF m 203 #[iv mk, iv xi, iv yi, .val (.long d0), .second, .val (.long d1), .second, .val (.long d2), .second, rv da, rv a, .val (.int 2), .val (.int 1), .val (.int 2), .val (.int 1), .unset, .unset] [(.int 2)]) (fun _ k => st793.trans k) ?_
        have F803 := F784.keep K793q (ninS (Ne.symm NE_a_da) (ninS NE_da_ha (ninS NE_da_pa nin0)))
        have F804 := F787.keep K793q (ninS (Ne.symm NE_a_oa) (ninS (Ne.symm NE_ha_oa) (ninS (Ne.symm NE_pa_oa) nin0)))
        have Z793 : n0 ≤ T793.heap.size := Nat.le_trans Z773 K793q.1
        have F805 : own_Ar Z T793.heap ha kh .int [(.int (1 : Int32)), (.int (1 : Int32)), g2] := F801
        have F806 : own_Ar Z T793.heap pa kp .int [(.int (-1 : Int32)), (.int (0 : Int32)), (.int (-1 : Int32))] := F802
        refine own_S (mkF m 205 #[iv mk, iv xi, iv yi, .val (.long d0), .second, .val (.long d1), .second, .val (.long d2), .second, rv da, rv a, .val (.int 2), .val (.int 1), .val (.int 2), .val (.int 1), .val (.int 2), .unset] []) (fun _ k => XS.istore X793.here hx rfl (hb hby at_203) rfl (l' := #[iv mk, iv xi, iv yi, .val (.long d0), .second, .val (.long d1), .second, .val (.long d2), .second, rv da, rv a, .val (.int 2), .val (.int 1), .val (.int 2), .val (.int 1), .val (.int 2), .unset]) rfl k) ?_
        refine own_S (mkF m 207 #[iv mk, iv xi, iv yi, .val (.long d0), .second, .val (.long d1), .second, .val (.long d2), .second, rv da, rv a, .val (.int 2), .val (.int 1), .val (.int 2), .val (.int 1), .val (.int 2), .unset] [(.int 2)]) (fun _ k => XS.iload X793.here hx rfl (hb hby at_205) rfl k) ?_
        refine own_S (mkF m 209 #[iv mk, iv xi, iv yi, .val (.long d0), .second, .val (.long d1), .second, .val (.long d2), .second, rv da, rv a, .val (.int 2), .val (.int 1), .val (.int 2), .val (.int 1), .val (.int 2), .unset] [(.int 2), (.int 2)]) (fun _ k => XS.iload X793.here hx rfl (hb hby at_207) rfl k) ?_
        have hc807 : (2 : Int32) = (2 : Int32) := by decide
        refine own_S (mkF m 214 #[iv mk, iv xi, iv yi, .val (.long d0), .second, .val (.long d1), .second, .val (.long d2), .second, rv da, rv a, .val (.int 2), .val (.int 1), .val (.int 2), .val (.int 1), .val (.int 2), .unset] []) (fun _ k => XS.icmpYes X793.here hx rfl (pc0 := 209) (pc' := 214) rfl (hb hby at_209) rfl (teq hc807).1 (by decide) (by decide) k) ?_
        refine own_S (mkF m 216 #[iv mk, iv xi, iv yi, .val (.long d0), .second, .val (.long d1), .second, .val (.long d2), .second, rv da, rv a, .val (.int 2), .val (.int 1), .val (.int 2), .val (.int 1), .val (.int 2), .unset] [(.ref a)]) (fun _ k => XS.aload X793.here hx rfl (hb hby at_214) rfl rfl k) ?_
        obtain ⟨cq808, kq808, q808a, q808b, q808c⟩ := isOf hZ rfl F794
        obtain ⟨_, _, ⟨T808, L808, k808, n808⟩, -, X808, ⟨Lc808, hQ808, l808, y808, z808⟩, st808⟩ := X793.virtualBack hx (y := own_y2) (z := own_y2) hown (mvT hZ (own_g hw (i := 30) rfl)) (mvT hZ (own_g hw (i := 31) rfl)) (notFace_of_selects (args := #[]) (mvT hZ (own_g hw (i := 33) rfl))) (mvT hZ (own_g hw (i := 33) rfl)) (mvT hZ (own_g hw (i := 32) rfl)) (by decide) (backOf (W := 0) (own_rmne l Z a0 hw [] (a) ((1 : Int32)) T793.heap n0 Z793 F799 (by decide)) hZ (own_g hw (i := 34) rfl) (own_g hw (i := 3) rfl) (by decide) (by decide)) q808a q808c (g := (mkF m 216 #[iv mk, iv xi, iv yi, .val (.long d0), .second, .val (.long d1), .second, .val (.long d2), .second, rv da, rv a, .val (.int 2), .val (.int 1), .val (.int 2), .val (.int 1), .val (.int 2), .unset] [(.ref a)])) rfl (by rw [hml]; rfl) (Steps.refl _) (argsL := []) (rest := []) (lenOf own_pd___Z rfl) rfl (by show 2 * 0 + _ ≤ _; exact Nat.le_of_eq rfl) (hb hby at_216) (fun _ _ => ⟨rfl, rfl, (by decide : 5 + 0 ≤ _), (by decide : 18 + 0 ≤ _)⟩)
        dsimp only [Pt.U, Pt.locs, Pt.cells, Pt.slots] at X808 l808 y808 z808 st808 hQ808
        subst l808 y808 z808
        obtain ⟨rfl, N808q, e808⟩ := hQ808
        have N808 := Fr.app N793 N808q
        refine own_S (mkF m 219 #[iv mk, iv xi, iv yi, .val (.long d0), .second, .val (.long d1), .second, .val (.long d2), .second, rv da, rv a, .val (.int 2), .val (.int 1), .val (.int 2), .val (.int 1), .val (.int 2), .unset] [(.int 0)]) (fun _ k => st808.trans k) ?_
        have hc809 : (0 : Int32) = (0 : Int32) := by decide
        refine own_S (mkF m 224 #[iv mk, iv xi, iv yi, .val (.long d0), .second, .val (.long d1), .second, .val (.long d2), .second, rv da, rv a, .val (.int 2), .val (.int 1), .val (.int 2), .val (.int 1), .val (.int 2), .unset] []) (fun _ k => XS.ifYes X808.here hx rfl (pc0 := 219) (pc' := 224) rfl (hb hby at_219) rfl ((if0 _ _).trans (teq hc809).1) (by decide) (by decide) k) ?_
        refine own_S (mkF m 226 #[iv mk, iv xi, iv yi, .val (.long d0), .second, .val (.long d1), .second, .val (.long d2), .second, rv da, rv a, .val (.int 2), .val (.int 1), .val (.int 2), .val (.int 1), .val (.int 2), .unset] [(.ref a)]) (fun _ k => XS.aload X808.here hx rfl (hb hby at_224) rfl rfl k) ?_
        obtain ⟨cq810, kq810, q810a, q810b, q810c⟩ := isOf hZ e808 F794
        obtain ⟨_, _, ⟨T810, L810, k810, n810⟩, -, X810, ⟨Lc810, hQ810, l810, y810, z810⟩, st810⟩ := X808.virtualBack hx (y := own_y9) (z := own_y9) hown (mvT hZ (own_g hw (i := 55) rfl)) (mvT hZ (own_g hw (i := 56) rfl)) (notFace_of_selects (args := #[]) (mvT hZ (own_g hw (i := 58) rfl))) (mvT hZ (own_g hw (i := 58) rfl)) (mvT hZ (own_g hw (i := 57) rfl)) (by decide) (backOf (W := 0) (own_rmpo1 l Z a0 hw [] (a) (da) (ha) (pa) (oa) (kd) (kh) (kp) (ko) ([(.long d0), (.long d1), (.long d2)]) ([(.int (1 : Int32)), (.int (1 : Int32)), g2]) ([(.int (-1 : Int32)), (.int (0 : Int32)), (.int (-1 : Int32))]) ([(.long o0), (.long ((of + (1 : Int64)) + (1 : Int64))), (.long (of + (1 : Int64)))]) (((of + (1 : Int64)) + (1 : Int64))) ((1 : Int32)) T793.heap n0 Z793 F794 F795 F796 F797 F798 F799 F800 F803 F805 F806 F804 G_a G_ha G_pa NE_a_da NE_a_ha NE_a_pa NE_a_oa NE_da_ha NE_da_pa NE_da_oa NE_ha_pa NE_ha_oa NE_pa_oa rfl (by decide) (show (1 : Nat) < 3 from by decide)) hZ (own_g hw (i := 59) rfl) (own_g hw (i := 3) rfl) (by decide) (by decide)) q810a q810c (g := (mkF m 226 #[iv mk, iv xi, iv yi, .val (.long d0), .second, .val (.long d1), .second, .val (.long d2), .second, rv da, rv a, .val (.int 2), .val (.int 1), .val (.int 2), .val (.int 1), .val (.int 2), .unset] [(.ref a)])) rfl (by rw [hml]; rfl) (Steps.refl _) (argsL := []) (rest := []) (lenOf own_pd___I rfl) rfl (by show 2 * 0 + _ ≤ _; exact Nat.le_of_eq rfl) (hb hby at_226) (fun _ _ => ⟨rfl, e808, (by decide : 5 + 0 ≤ _), (by decide : 18 + 0 ≤ _)⟩)
        dsimp only [Pt.U, Pt.locs, Pt.cells, Pt.slots] at X810 l810 y810 z810 st810 hQ810
        subst l810 y810 z810
        obtain ⟨rfl, N810q, K810q, F811, F812, F813, F814, F815, F816, F817, F818, F819⟩ := hQ810
        have N810 := Fr.app N808 N810q
        refine own_S (mkF m 229 #[iv mk, iv xi, iv yi, .val (.long d0), .second, .val (.long d1), .second, .val (.long d2), .second, rv da, rv a, .val (.int 2), .val (.int 1), .val (.int 2), .val (.int 1), .val (.int 2), .unset] [(.int 1)]) (fun _ k => st810.trans k) ?_
        have F820 := F803.keep K810q (ninS (Ne.symm NE_a_da) (ninS NE_da_ha (ninS NE_da_pa nin0)))
        have F821 := F804.keep K810q (ninS (Ne.symm NE_a_oa) (ninS (Ne.symm NE_ha_oa) (ninS (Ne.symm NE_pa_oa) nin0)))
        have Z810 : n0 ≤ T810.heap.size := Nat.le_trans Z793 K810q.1
        refine own_S (mkF m 231 #[iv mk, iv xi, iv yi, .val (.long d0), .second, .val (.long d1), .second, .val (.long d2), .second, rv da, rv a, .val (.int 2), .val (.int 1), .val (.int 2), .val (.int 1), .val (.int 2), .val (.int 1)] []) (fun _ k => XS.istore X810.here hx rfl (hb hby at_229) rfl (l' := #[iv mk, iv xi, iv yi, .val (.long d0), .second, .val (.long d1), .second, .val (.long d2), .second, rv da, rv a, .val (.int 2), .val (.int 1), .val (.int 2), .val (.int 1), .val (.int 2), .val (.int 1)]) rfl k) ?_
        refine own_S (mkF m 233 #[iv mk, iv xi, iv yi, .val (.long d0), .second, .val (.long d1), .second, .val (.long d2), .second, rv da, rv a, .val (.int 2), .val (.int 1), .val (.int 2), .val (.int 1), .val (.int 2), .val (.int 1)] [(.int 1)]) (fun _ k => XS.iload X810.here hx rfl (hb hby at_231) rfl k) ?_
        refine own_S (mkF m 235 #[iv mk, iv xi, iv yi, .val (.long d0), .second, .val (.long d1), .second, .val (.long d2), .second, rv da, rv a, .val (.int 2), .val (.int 1), .val (.int 2), .val (.int 1), .val (.int 2), .val (.int 1)] [(.int 1), (.int 1)]) (fun _ k => XS.iload X810.here hx rfl (hb hby at_233) rfl k) ?_
        have hc822 : (1 : Int32) = (1 : Int32) := by decide
        refine own_S (mkF m 238 #[iv mk, iv xi, iv yi, .val (.long d0), .second, .val (.long d1), .second, .val (.long d2), .second, rv da, rv a, .val (.int 2), .val (.int 1), .val (.int 2), .val (.int 1), .val (.int 2), .val (.int 1)] []) (fun _ k => XS.icmpNo X810.here hx rfl (hb hby at_235) rfl (teq hc822).2 k) ?_
        refine own_S (mkF m 240 #[iv mk, iv xi, iv yi, .val (.long d0), .second, .val (.long d1), .second, .val (.long d2), .second, rv da, rv a, .val (.int 2), .val (.int 1), .val (.int 2), .val (.int 1), .val (.int 2), .val (.int 1)] [(.ref a)]) (fun _ k => XS.aload X810.here hx rfl (hb hby at_238) rfl rfl k) ?_
        obtain ⟨cq823, kq823, q823a, q823b, q823c⟩ := isOf hZ rfl F811
        obtain ⟨_, _, ⟨T823, L823, k823, n823⟩, -, X823, ⟨Lc823, hQ823, l823, y823, z823⟩, st823⟩ := X810.virtualBack hx (y := own_y2) (z := own_y2) hown (mvT hZ (own_g hw (i := 30) rfl)) (mvT hZ (own_g hw (i := 31) rfl)) (notFace_of_selects (args := #[]) (mvT hZ (own_g hw (i := 33) rfl))) (mvT hZ (own_g hw (i := 33) rfl)) (mvT hZ (own_g hw (i := 32) rfl)) (by decide) (backOf (W := 0) (own_rmem l Z a0 hw [] (a) T810.heap n0 Z810 F816) hZ (own_g hw (i := 34) rfl) (own_g hw (i := 3) rfl) (by decide) (by decide)) q823a q823c (g := (mkF m 240 #[iv mk, iv xi, iv yi, .val (.long d0), .second, .val (.long d1), .second, .val (.long d2), .second, rv da, rv a, .val (.int 2), .val (.int 1), .val (.int 2), .val (.int 1), .val (.int 2), .val (.int 1)] [(.ref a)])) rfl (by rw [hml]; rfl) (Steps.refl _) (argsL := []) (rest := []) (lenOf own_pd___Z rfl) rfl (by show 2 * 0 + _ ≤ _; exact Nat.le_of_eq rfl) (hb hby at_240) (fun _ _ => ⟨rfl, rfl, (by decide : 5 + 0 ≤ _), (by decide : 18 + 0 ≤ _)⟩)
        dsimp only [Pt.U, Pt.locs, Pt.cells, Pt.slots] at X823 l823 y823 z823 st823 hQ823
        subst l823 y823 z823
        obtain ⟨rfl, N823q, e823⟩ := hQ823
        have N823 := Fr.app N810 N823q
        refine own_S (mkF m 243 #[iv mk, iv xi, iv yi, .val (.long d0), .second, .val (.long d1), .second, .val (.long d2), .second, rv da, rv a, .val (.int 2), .val (.int 1), .val (.int 2), .val (.int 1), .val (.int 2), .val (.int 1)] [(.int 1)]) (fun _ k => st823.trans k) ?_
        have hc824 : ¬ ((1 : Int32) = (0 : Int32)) := by decide
        refine own_S (mkF m 246 #[iv mk, iv xi, iv yi, .val (.long d0), .second, .val (.long d1), .second, .val (.long d2), .second, rv da, rv a, .val (.int 2), .val (.int 1), .val (.int 2), .val (.int 1), .val (.int 2), .val (.int 1)] []) (fun _ k => XS.ifNo X823.here hx rfl (hb hby at_243) rfl ((if0 _ _).trans (feq hc824).1) k) ?_
        refine own_S (mkF m 247 #[iv mk, iv xi, iv yi, .val (.long d0), .second, .val (.long d1), .second, .val (.long d2), .second, rv da, rv a, .val (.int 2), .val (.int 1), .val (.int 2), .val (.int 1), .val (.int 2), .val (.int 1)] [(.int 1)]) (fun _ k => XS.iconst X823.here hx rfl (hb hby at_246) k) ?_
        refine own_S (mkF m 251 #[iv mk, iv xi, iv yi, .val (.long d0), .second, .val (.long d1), .second, .val (.long d2), .second, rv da, rv a, .val (.int 2), .val (.int 1), .val (.int 2), .val (.int 1), .val (.int 2), .val (.int 1)] [(.int 1)]) (fun _ k => XS.goto X823.here hx rfl (pc0 := 247) (pc' := 251) rfl (hb hby at_247) (by decide) (by decide) k) ?_
        exact own_retN X823 hx hlk (t := .boolean) hret (by simp) (hb hby at_251) (by rw [e823]; exact ⟨rfl, N823, trivial⟩) (by decide) (by decide)
    · -- bv = 2
      subst q586_2
      obtain ⟨cq825, kq825, q825a, q825b, q825c⟩ := isOf hZ e1 P0
      obtain ⟨_, _, ⟨T825, L825, k825, n825⟩, -, X825, ⟨Lc825, hQ825, l825, y825, z825⟩, st825⟩ := X1.virtualBack hx (y := own_y6) (z := own_y6) hown (mvT hZ (own_g hw (i := 36) rfl)) (mvT hZ (own_g hw (i := 37) rfl)) (notFace_of_selects (args := #[]) (mvT hZ (own_g hw (i := 39) rfl))) (mvT hZ (own_g hw (i := 39) rfl)) (mvT hZ (own_g hw (i := 38) rfl)) (by decide) (backOf (W := 0) (own_rmofA l Z a0 hw [] (a) (da) (ha) (pa) (oa) (kd) (kh) (kp) (ko) ([(.long d0), (.long d1), (.long d2)]) ([g0, g1, g2]) ([(.int (-1 : Int32)), (.int (-1 : Int32)), (.int (-1 : Int32))]) ([(.long o0), (.long o1), (.long o2)]) ((2 : Int32)) (of) hh n0 Z0 P0 P1 P2 P3 P4 P5 P6 P7 P8 P9 P10 G_a G_ha G_pa G_oa NE_a_da NE_a_ha NE_a_pa NE_a_oa NE_da_ha NE_da_pa NE_da_oa NE_ha_pa NE_ha_oa NE_pa_oa (by decide) (show (2 : Nat) < 3 from by decide) (show (2 : Nat) < 3 from by decide) rfl (show (0 : Nat) < 3 from by decide)) hZ (own_g hw (i := 40) rfl) (own_g hw (i := 3) rfl) (by decide) (by decide)) q825a q825c (g := (mkF m 104 #[iv mk, iv xi, iv yi, .val (.long d0), .second, .val (.long d1), .second, .val (.long d2), .second, rv da, rv a, .val (.int 2), .val (.int 2), .unset, .unset, .unset, .unset] [(.int 2), (.ref a)])) rfl (by rw [hml]; rfl) (Steps.refl _) (argsL := [(.int 2)]) (rest := []) (lenOf own_pd__I_V rfl) rfl (by show 2 * 0 + _ ≤ _; exact Nat.le_of_eq rfl) (hb hby at_104) (fun _ _ => ⟨rfl, e1, (by decide : 5 + 0 ≤ _), (by decide : 18 + 0 ≤ _)⟩)
      dsimp only [Pt.U, Pt.locs, Pt.cells, Pt.slots] at X825 l825 y825 z825 st825 hQ825
      subst l825 y825 z825
      obtain ⟨rfl, N825q, K825q, F826, F827, F828, F829, F830, F831, F832, F833, F834, F835⟩ := hQ825
      have N825 := Fr.app N1 N825q
      refine own_S (mkF m 107 #[iv mk, iv xi, iv yi, .val (.long d0), .second, .val (.long d1), .second, .val (.long d2), .second, rv da, rv a, .val (.int 2), .val (.int 2), .unset, .unset, .unset, .unset] []) (fun _ k => st825.trans k) ?_
      have F836 := P7.keep K825q (ninS (Ne.symm NE_a_da) (ninS NE_da_ha (ninS NE_da_pa (ninS NE_da_oa nin0))))
      have Z825 : n0 ≤ T825.heap.size := Nat.le_trans Z0 K825q.1
      have F837 : own_Ar Z T825.heap ha kh .int [(.int (2 : Int32)), g1, g2] := F833
      have F838 : own_Ar Z T825.heap pa kp .int [(.int (-1 : Int32)), (.int (-1 : Int32)), (.int (0 : Int32))] := F834
      have F839 : own_Ar Z T825.heap oa ko .long [(.long o0), (.long o1), (.long (of + (1 : Int64)))] := F835
      refine own_S (mkF m 109 #[iv mk, iv xi, iv yi, .val (.long d0), .second, .val (.long d1), .second, .val (.long d2), .second, rv da, rv a, .val (.int 2), .val (.int 2), .unset, .unset, .unset, .unset] [(.ref a)]) (fun _ k => XS.aload X825.here hx rfl (hb hby at_107) rfl rfl k) ?_
      refine own_S (mkF m 111 #[iv mk, iv xi, iv yi, .val (.long d0), .second, .val (.long d1), .second, .val (.long d2), .second, rv da, rv a, .val (.int 2), .val (.int 2), .unset, .unset, .unset, .unset] [(.int 2), (.ref a)]) (fun _ k => XS.iload X825.here hx rfl (hb hby at_109) rfl k) ?_
      obtain ⟨cq840, kq840, q840a, q840b, q840c⟩ := isOf hZ rfl F826
      obtain ⟨_, _, ⟨T840, L840, k840, n840⟩, -, X840, ⟨Lc840, hQ840, l840, y840, z840⟩, st840⟩ := X825.virtualBack hx (y := own_y6) (z := own_y6) hown (mvT hZ (own_g hw (i := 36) rfl)) (mvT hZ (own_g hw (i := 37) rfl)) (notFace_of_selects (args := #[]) (mvT hZ (own_g hw (i := 39) rfl))) (mvT hZ (own_g hw (i := 39) rfl)) (mvT hZ (own_g hw (i := 38) rfl)) (by decide) (backOf (W := 0) (own_rmofC l Z a0 hw [] (a) (da) (ha) (pa) (oa) (kd) (kh) (kp) (ko) ([(.long d0), (.long d1), (.long d2)]) ([(.int (2 : Int32)), g1, g2]) ([(.int (-1 : Int32)), (.int (-1 : Int32)), (.int (0 : Int32))]) ([(.long o0), (.long o1), (.long (of + (1 : Int64)))]) ((2 : Int32)) ((of + (1 : Int64))) ((1 : Int32)) T825.heap n0 Z825 F826 F827 F828 F829 F830 F831 F832 F836 F837 F838 F839 G_a G_ha G_pa G_oa NE_a_da NE_a_ha NE_a_pa NE_a_oa NE_da_ha NE_da_pa NE_da_oa NE_ha_pa NE_ha_oa NE_pa_oa (by decide) (show (2 : Nat) < 3 from by decide) (show (2 : Nat) < 3 from by decide) rfl rfl) hZ (own_g hw (i := 40) rfl) (own_g hw (i := 3) rfl) (by decide) (by decide)) q840a q840c (g := (mkF m 111 #[iv mk, iv xi, iv yi, .val (.long d0), .second, .val (.long d1), .second, .val (.long d2), .second, rv da, rv a, .val (.int 2), .val (.int 2), .unset, .unset, .unset, .unset] [(.int 2), (.ref a)])) rfl (by rw [hml]; rfl) (Steps.refl _) (argsL := [(.int 2)]) (rest := []) (lenOf own_pd__I_V rfl) rfl (by show 2 * 0 + _ ≤ _; exact Nat.le_of_eq rfl) (hb hby at_111) (fun _ _ => ⟨rfl, rfl, (by decide : 5 + 0 ≤ _), (by decide : 18 + 0 ≤ _)⟩)
      dsimp only [Pt.U, Pt.locs, Pt.cells, Pt.slots] at X840 l840 y840 z840 st840 hQ840
      subst l840 y840 z840
      obtain ⟨rfl, N840q, K840q, F841, F842, F843, F844, F845, F846, F847, F848, F849, F850⟩ := hQ840
      have N840 := Fr.app N825 N840q
      refine own_S (mkF m 114 #[iv mk, iv xi, iv yi, .val (.long d0), .second, .val (.long d1), .second, .val (.long d2), .second, rv da, rv a, .val (.int 2), .val (.int 2), .unset, .unset, .unset, .unset] []) (fun _ k => st840.trans k) ?_
      have F851 := F836.keep K840q (ninS (Ne.symm NE_a_da) (ninS NE_da_ha (ninS NE_da_pa (ninS NE_da_oa nin0))))
      have Z840 : n0 ≤ T840.heap.size := Nat.le_trans Z825 K840q.1
      have F852 : own_Ar Z T840.heap ha kh .int [(.int (2 : Int32)), g1, g2] := F848
      have F853 : own_Ar Z T840.heap pa kp .int [(.int (-1 : Int32)), (.int (-1 : Int32)), (.int (0 : Int32))] := F849
      have F854 : own_Ar Z T840.heap oa ko .long [(.long o0), (.long o1), (.long ((of + (1 : Int64)) + (1 : Int64)))] := F850
      refine own_S (mkF m 116 #[iv mk, iv xi, iv yi, .val (.long d0), .second, .val (.long d1), .second, .val (.long d2), .second, rv da, rv a, .val (.int 2), .val (.int 2), .unset, .unset, .unset, .unset] [(.ref a)]) (fun _ k => XS.aload X840.here hx rfl (hb hby at_114) rfl rfl k) ?_
      obtain ⟨cq855, kq855, q855a, q855b, q855c⟩ := isOf hZ rfl F841
      obtain ⟨_, _, ⟨T855, L855, k855, n855⟩, -, X855, ⟨Lc855, hQ855, l855, y855, z855⟩, st855⟩ := X840.virtualBack hx (y := own_y2) (z := own_y2) hown (mvT hZ (own_g hw (i := 30) rfl)) (mvT hZ (own_g hw (i := 31) rfl)) (notFace_of_selects (args := #[]) (mvT hZ (own_g hw (i := 33) rfl))) (mvT hZ (own_g hw (i := 33) rfl)) (mvT hZ (own_g hw (i := 32) rfl)) (by decide) (backOf (W := 0) (own_rmne l Z a0 hw [] (a) ((1 : Int32)) T840.heap n0 Z840 F846 (by decide)) hZ (own_g hw (i := 34) rfl) (own_g hw (i := 3) rfl) (by decide) (by decide)) q855a q855c (g := (mkF m 116 #[iv mk, iv xi, iv yi, .val (.long d0), .second, .val (.long d1), .second, .val (.long d2), .second, rv da, rv a, .val (.int 2), .val (.int 2), .unset, .unset, .unset, .unset] [(.ref a)])) rfl (by rw [hml]; rfl) (Steps.refl _) (argsL := []) (rest := []) (lenOf own_pd___Z rfl) rfl (by show 2 * 0 + _ ≤ _; exact Nat.le_of_eq rfl) (hb hby at_116) (fun _ _ => ⟨rfl, rfl, (by decide : 5 + 0 ≤ _), (by decide : 18 + 0 ≤ _)⟩)
      dsimp only [Pt.U, Pt.locs, Pt.cells, Pt.slots] at X855 l855 y855 z855 st855 hQ855
      subst l855 y855 z855
      obtain ⟨rfl, N855q, e855⟩ := hQ855
      have N855 := Fr.app N840 N855q
      refine own_S (mkF m 119 #[iv mk, iv xi, iv yi, .val (.long d0), .second, .val (.long d1), .second, .val (.long d2), .second, rv da, rv a, .val (.int 2), .val (.int 2), .unset, .unset, .unset, .unset] [(.int 0)]) (fun _ k => st855.trans k) ?_
      have hc856 : (0 : Int32) = (0 : Int32) := by decide
      refine own_S (mkF m 124 #[iv mk, iv xi, iv yi, .val (.long d0), .second, .val (.long d1), .second, .val (.long d2), .second, rv da, rv a, .val (.int 2), .val (.int 2), .unset, .unset, .unset, .unset] []) (fun _ k => XS.ifYes X855.here hx rfl (pc0 := 119) (pc' := 124) rfl (hb hby at_119) rfl ((if0 _ _).trans (teq hc856).1) (by decide) (by decide) k) ?_
      refine own_S (mkF m 126 #[iv mk, iv xi, iv yi, .val (.long d0), .second, .val (.long d1), .second, .val (.long d2), .second, rv da, rv a, .val (.int 2), .val (.int 2), .unset, .unset, .unset, .unset] [(.int 2)]) (fun _ k => XS.iload X855.here hx rfl (hb hby at_124) rfl k) ?_
      refine own_S (mkF m 128 #[iv mk, iv xi, iv yi, .val (.long d0), .second, .val (.long d1), .second, .val (.long d2), .second, rv da, rv a, .val (.int 2), .val (.int 2), .unset, .unset, .unset, .unset] [(.int 2), (.int 2)]) (fun _ k => XS.iload X855.here hx rfl (hb hby at_126) rfl k) ?_
      have hc857 : (2 : Int32) = (2 : Int32) := by decide
      refine own_S (mkF m 131 #[iv mk, iv xi, iv yi, .val (.long d0), .second, .val (.long d1), .second, .val (.long d2), .second, rv da, rv a, .val (.int 2), .val (.int 2), .unset, .unset, .unset, .unset] []) (fun _ k => XS.icmpNo X855.here hx rfl (hb hby at_128) rfl (teq hc857).2 k) ?_
      refine own_S (mkF m 133 #[iv mk, iv xi, iv yi, .val (.long d0), .second, .val (.long d1), .second, .val (.long d2), .second, rv da, rv a, .val (.int 2), .val (.int 2), .unset, .unset, .unset, .unset] [(.ref a)]) (fun _ k => XS.aload X855.here hx rfl (hb hby at_131) rfl rfl k) ?_
      obtain ⟨cq858, kq858, q858a, q858b, q858c⟩ := isOf hZ e855 F841
      obtain ⟨_, _, ⟨T858, L858, k858, n858⟩, -, X858, ⟨Lc858, hQ858, l858, y858, z858⟩, st858⟩ := X855.virtualBack hx (y := own_y9) (z := own_y9) hown (mvT hZ (own_g hw (i := 55) rfl)) (mvT hZ (own_g hw (i := 56) rfl)) (notFace_of_selects (args := #[]) (mvT hZ (own_g hw (i := 58) rfl))) (mvT hZ (own_g hw (i := 58) rfl)) (mvT hZ (own_g hw (i := 57) rfl)) (by decide) (backOf (W := 0) (own_rmpo1 l Z a0 hw [] (a) (da) (ha) (pa) (oa) (kd) (kh) (kp) (ko) ([(.long d0), (.long d1), (.long d2)]) ([(.int (2 : Int32)), g1, g2]) ([(.int (-1 : Int32)), (.int (-1 : Int32)), (.int (0 : Int32))]) ([(.long o0), (.long o1), (.long ((of + (1 : Int64)) + (1 : Int64)))]) (((of + (1 : Int64)) + (1 : Int64))) ((2 : Int32)) T840.heap n0 Z840 F841 F842 F843 F844 F845 F846 F847 F851 F852 F853 F854 G_a G_ha G_pa NE_a_da NE_a_ha NE_a_pa NE_a_oa NE_da_ha NE_da_pa NE_da_oa NE_ha_pa NE_ha_oa NE_pa_oa rfl (by decide) (show (2 : Nat) < 3 from by decide)) hZ (own_g hw (i := 59) rfl) (own_g hw (i := 3) rfl) (by decide) (by decide)) q858a q858c (g := (mkF m 133 #[iv mk, iv xi, iv yi, .val (.long d0), .second, .val (.long d1), .second, .val (.long d2), .second, rv da, rv a, .val (.int 2), .val (.int 2), .unset, .unset, .unset, .unset] [(.ref a)])) rfl (by rw [hml]; rfl) (Steps.refl _) (argsL := []) (rest := []) (lenOf own_pd___I rfl) rfl (by show 2 * 0 + _ ≤ _; exact Nat.le_of_eq rfl) (hb hby at_133) (fun _ _ => ⟨rfl, e855, (by decide : 5 + 0 ≤ _), (by decide : 18 + 0 ≤ _)⟩)
      dsimp only [Pt.U, Pt.locs, Pt.cells, Pt.slots] at X858 l858 y858 z858 st858 hQ858
      subst l858 y858 z858
      obtain ⟨rfl, N858q, K858q, F859, F860, F861, F862, F863, F864, F865, F866, F867⟩ := hQ858
      have N858 := Fr.app N855 N858q
      refine own_S (mkF m 136 #[iv mk, iv xi, iv yi, .val (.long d0), .second, .val (.long d1), .second, .val (.long d2), .second, rv da, rv a, .val (.int 2), .val (.int 2), .unset, .unset, .unset, .unset] [(.int 2)]) (fun _ k => st858.trans k) ?_
      have F868 := F851.keep K858q (ninS (Ne.symm NE_a_da) (ninS NE_da_ha (ninS NE_da_pa nin0)))
      have F869 := F854.keep K858q (ninS (Ne.symm NE_a_oa) (ninS (Ne.symm NE_ha_oa) (ninS (Ne.symm NE_pa_oa) nin0)))
      have Z858 : n0 ≤ T858.heap.size := Nat.le_trans Z840 K858q.1
      refine own_S (mkF m 138 #[iv mk, iv xi, iv yi, .val (.long d0), .second, .val (.long d1), .second, .val (.long d2), .second, rv da, rv a, .val (.int 2), .val (.int 2), .val (.int 2), .unset, .unset, .unset] []) (fun _ k => XS.istore X858.here hx rfl (hb hby at_136) rfl (l' := #[iv mk, iv xi, iv yi, .val (.long d0), .second, .val (.long d1), .second, .val (.long d2), .second, rv da, rv a, .val (.int 2), .val (.int 2), .val (.int 2), .unset, .unset, .unset]) rfl k) ?_
      refine own_S (mkF m 140 #[iv mk, iv xi, iv yi, .val (.long d0), .second, .val (.long d1), .second, .val (.long d2), .second, rv da, rv a, .val (.int 2), .val (.int 2), .val (.int 2), .unset, .unset, .unset] [(.int 2)]) (fun _ k => XS.iload X858.here hx rfl (hb hby at_138) rfl k) ?_
      refine own_S (mkF m 142 #[iv mk, iv xi, iv yi, .val (.long d0), .second, .val (.long d1), .second, .val (.long d2), .second, rv da, rv a, .val (.int 2), .val (.int 2), .val (.int 2), .unset, .unset, .unset] [(.int 2), (.int 2)]) (fun _ k => XS.iload X858.here hx rfl (hb hby at_140) rfl k) ?_
      have hc870 : (2 : Int32) = (2 : Int32) := by decide
      refine own_S (mkF m 145 #[iv mk, iv xi, iv yi, .val (.long d0), .second, .val (.long d1), .second, .val (.long d2), .second, rv da, rv a, .val (.int 2), .val (.int 2), .val (.int 2), .unset, .unset, .unset] []) (fun _ k => XS.icmpNo X858.here hx rfl (hb hby at_142) rfl (teq hc870).2 k) ?_
      refine own_S (mkF m 147 #[iv mk, iv xi, iv yi, .val (.long d0), .second, .val (.long d1), .second, .val (.long d2), .second, rv da, rv a, .val (.int 2), .val (.int 2), .val (.int 2), .unset, .unset, .unset] [(.ref a)]) (fun _ k => XS.aload X858.here hx rfl (hb hby at_145) rfl rfl k) ?_
      obtain ⟨cq871, kq871, q871a, q871b, q871c⟩ := isOf hZ rfl F859
      obtain ⟨_, _, ⟨T871, L871, k871, n871⟩, -, X871, ⟨Lc871, hQ871, l871, y871, z871⟩, st871⟩ := X858.virtualBack hx (y := own_y2) (z := own_y2) hown (mvT hZ (own_g hw (i := 30) rfl)) (mvT hZ (own_g hw (i := 31) rfl)) (notFace_of_selects (args := #[]) (mvT hZ (own_g hw (i := 33) rfl))) (mvT hZ (own_g hw (i := 33) rfl)) (mvT hZ (own_g hw (i := 32) rfl)) (by decide) (backOf (W := 0) (own_rmem l Z a0 hw [] (a) T858.heap n0 Z858 F864) hZ (own_g hw (i := 34) rfl) (own_g hw (i := 3) rfl) (by decide) (by decide)) q871a q871c (g := (mkF m 147 #[iv mk, iv xi, iv yi, .val (.long d0), .second, .val (.long d1), .second, .val (.long d2), .second, rv da, rv a, .val (.int 2), .val (.int 2), .val (.int 2), .unset, .unset, .unset] [(.ref a)])) rfl (by rw [hml]; rfl) (Steps.refl _) (argsL := []) (rest := []) (lenOf own_pd___Z rfl) rfl (by show 2 * 0 + _ ≤ _; exact Nat.le_of_eq rfl) (hb hby at_147) (fun _ _ => ⟨rfl, rfl, (by decide : 5 + 0 ≤ _), (by decide : 18 + 0 ≤ _)⟩)
      dsimp only [Pt.U, Pt.locs, Pt.cells, Pt.slots] at X871 l871 y871 z871 st871 hQ871
      subst l871 y871 z871
      obtain ⟨rfl, N871q, e871⟩ := hQ871
      have N871 := Fr.app N858 N871q
      refine own_S (mkF m 150 #[iv mk, iv xi, iv yi, .val (.long d0), .second, .val (.long d1), .second, .val (.long d2), .second, rv da, rv a, .val (.int 2), .val (.int 2), .val (.int 2), .unset, .unset, .unset] [(.int 1)]) (fun _ k => st871.trans k) ?_
      have hc872 : ¬ ((1 : Int32) = (0 : Int32)) := by decide
      refine own_S (mkF m 153 #[iv mk, iv xi, iv yi, .val (.long d0), .second, .val (.long d1), .second, .val (.long d2), .second, rv da, rv a, .val (.int 2), .val (.int 2), .val (.int 2), .unset, .unset, .unset] []) (fun _ k => XS.ifNo X871.here hx rfl (hb hby at_150) rfl ((if0 _ _).trans (feq hc872).1) k) ?_
      refine own_S (mkF m 154 #[iv mk, iv xi, iv yi, .val (.long d0), .second, .val (.long d1), .second, .val (.long d2), .second, rv da, rv a, .val (.int 2), .val (.int 2), .val (.int 2), .unset, .unset, .unset] [(.int 1)]) (fun _ k => XS.iconst X871.here hx rfl (hb hby at_153) k) ?_
      refine own_S (mkF m 158 #[iv mk, iv xi, iv yi, .val (.long d0), .second, .val (.long d1), .second, .val (.long d2), .second, rv da, rv a, .val (.int 2), .val (.int 2), .val (.int 2), .unset, .unset, .unset] [(.int 1)]) (fun _ k => XS.goto X871.here hx rfl (pc0 := 154) (pc' := 158) rfl (hb hby at_154) (by decide) (by decide) k) ?_
      exact own_retN X871 hx hlk (t := .boolean) hret (by simp) (hb hby at_158) (by rw [e871]; exact ⟨rfl, N871, trivial⟩) (by decide) (by decide)
theorem own_pd___J_V : parseMethodDescriptor "([J)V" = some ⟨[(.array .long)], none⟩ := by decide +kernel
theorem own_pd___V : parseMethodDescriptor "()V" = some ⟨[], none⟩ := by decide +kernel
theorem own_pf_law : plainFor x = true := by first | exact plainFor_of_name (show plainName "com/example/stickler/stickler/assignment/NodeQueueClearPinLaw" = true by first | (simp [plainName, overriddenIn]; done) | decide +kernel) | decide +kernel
theorem own_ef_law (m : MethodId) (y0 : Int32) (y1 : Int32) (y2 : Int32) (y3 : Int64) (y4 : Int64) (y5 : Int64) : entryFrame m #[(.int y0), (.int y1), (.int y2), (.long y3), (.long y4), (.long y5)] maxLocals = mkF m 0 #[iv y0, iv y1, iv y2, .val (.long y3), .second, .val (.long y4), .second, .val (.long y5), .second, .unset, .unset, .unset, .unset, .unset, .unset, .unset, .unset] [] := by first | (simp [entryFrame, mkF, argsToLocals, Value.category, maxLocals]; done) | rfl
set_option maxRecDepth 65536 in
set_option maxHeartbeats 40000000 in
theorem own_rmlaw (l : Launch) (Z : State) (a0 : Array Value) (hw : ∀ d ∈ tables_1, d.before a0 Z = true) (ws : List Jvm.Cond) (mk : Int32) (xi : Int32) (yi : Int32) (d0 : Int64) (d1 : Int64) (d2 : Int64) (h0 : Heap) (n0 : Nat) (Z0 : n0 ≤ h0.size)  :
    MetFree l x (head1 (Jvm.Cond.code x code maxLocals ret :: ws) room_1) (fun az Uz => az = #[(.int mk), (.int xi), (.int yi), (.long d0), (.long d1), (.long d2)] ∧ Z.Warmed39 Uz.vm ∧ Uz.heap = h0) (fun _ _ _ _ _ => True) (fun _ U o U' => ∃ v L, o = .returned v ∧ own_Qlaw Z mk xi yi d0 d1 d2 h0 n0 v U'.heap L ∧ FrameEnd U o U' L room_1.cells room_1.slots) := by
  refine MetFree.of_bodySF own_pf_law hisR ?_
  intro p e s m args below meth c s₁ Bd hml0 hP hK
  obtain ⟨rfl, hZ, hh⟩ := hP
  have hx := Bd.exec
  have hby := Bd.bytes
  have hml : c.maxLocals = 17 := hml0
  have hown : s.vm.findClass "com/example/stickler/stickler/assignment/NodeQueueClearPinLaw" = some m.cls := findClass_of_methodNamed Bd.named
  have hnm := (name_of_methodNamed Bd.named Bd.method).1
  have hlk : meth.locks = false := BodyLoose.notSynchronized Bd
  have hret := Bd.returns
  have X0 : Stand p l e room_1 s m #[(.int mk), (.int xi), (.int yi), (.long d0), (.long d1), (.long d2)] below meth c s₁ [] 0 0 := Stand.of_body Bd
  have e0 : s₁.heap = h0 := by rw [← hh, Bd.state]; rfl
  have N0 := Fr.nil n0
  show own_E p e below (own_K s (own_Qlaw Z mk xi yi d0 d1 d2 h0 n0) room_1.cells room_1.slots) s₁ (entryFrame m #[(.int mk), (.int xi), (.int yi), (.long d0), (.long d1), (.long d2)] maxLocals)
  refine own_S (mkF m 0 #[iv mk, iv xi, iv yi, .val (.long d0), .second, .val (.long d1), .second, .val (.long d2), .second, .unset, .unset, .unset, .unset, .unset, .unset, .unset, .unset] []) (fun _ k => castTop (own_ef_law m (mk) (xi) (yi) (d0) (d1) (d2)) k) ?_
  refine own_S (mkF m 1 #[iv mk, iv xi, iv yi, .val (.long d0), .second, .val (.long d1), .second, .val (.long d2), .second, .unset, .unset, .unset, .unset, .unset, .unset, .unset, .unset] [(.int 3)]) (fun _ k => XS.iconst X0.here hx rfl (hb hby at_0) k) ?_
  obtain ⟨T1, h1, cA1, X1, e1, E1, A1, st1⟩ := newP X0 hx hZ (own_g hw (i := 0) rfl) e0 (g := (mkF m 1 #[iv mk, iv xi, iv yi, .val (.long d0), .second, .val (.long d1), .second, .val (.long d2), .second, .unset, .unset, .unset, .unset, .unset, .unset, .unset, .unset] [(.int 3)])) rfl (hb hby at_1) rfl (by decide) (cap := 3) (by decide) (by decide) (by decide) (by decide)
  obtain ⟨da, g1⟩ : ∃ z, z = h0.size := ⟨_, rfl⟩
  rw [← g1] at A1 st1
  have ge_da : n0 ≤ da := Nat.le_trans Z0 (Nat.le_of_eq g1.symm)
  have Z1 : n0 ≤ h1.size := Nat.le_trans Z0 E1.1
  have F2 : own_Ar Z h1 da cA1 .long [(.long (0 : Int64)), (.long (0 : Int64)), (.long (0 : Int64))] := own_Ar.new A1 rfl
  refine own_S (mkF m 3 #[iv mk, iv xi, iv yi, .val (.long d0), .second, .val (.long d1), .second, .val (.long d2), .second, .unset, .unset, .unset, .unset, .unset, .unset, .unset, .unset] [(.ref da)]) st1 ?_
  refine own_S (mkF m 5 #[iv mk, iv xi, iv yi, .val (.long d0), .second, .val (.long d1), .second, .val (.long d2), .second, rv da, .unset, .unset, .unset, .unset, .unset, .unset, .unset] []) (fun _ k => XS.astore X1.here hx rfl (hb hby at_3) rfl rfl (l' := #[iv mk, iv xi, iv yi, .val (.long d0), .second, .val (.long d1), .second, .val (.long d2), .second, rv da, .unset, .unset, .unset, .unset, .unset, .unset, .unset]) rfl k) ?_
  refine own_S (mkF m 7 #[iv mk, iv xi, iv yi, .val (.long d0), .second, .val (.long d1), .second, .val (.long d2), .second, rv da, .unset, .unset, .unset, .unset, .unset, .unset, .unset] [(.ref da)]) (fun _ k => XS.aload X1.here hx rfl (hb hby at_5) rfl rfl k) ?_
  refine own_S (mkF m 8 #[iv mk, iv xi, iv yi, .val (.long d0), .second, .val (.long d1), .second, .val (.long d2), .second, rv da, .unset, .unset, .unset, .unset, .unset, .unset, .unset] [(.int 0), (.ref da)]) (fun _ k => XS.iconst X1.here hx rfl (hb hby at_7) k) ?_
  refine own_S (mkF m 9 #[iv mk, iv xi, iv yi, .val (.long d0), .second, .val (.long d1), .second, .val (.long d2), .second, rv da, .unset, .unset, .unset, .unset, .unset, .unset, .unset] [(.long d0), (.int 0), (.ref da)]) (fun _ k => XS.lloadN X1.here hx rfl (hb hby at_8) rfl k) ?_
  obtain ⟨T3, h3, X3, e3, W3, AR3, st3⟩ := own_stJ (j := (0 : Int32)) X1 hx hZ e1 F2 (by decide) (show (0 : Nat) < 3 from by decide) (g := (mkF m 9 #[iv mk, iv xi, iv yi, .val (.long d0), .second, .val (.long d1), .second, .val (.long d2), .second, rv da, .unset, .unset, .unset, .unset, .unset, .unset, .unset] [(.long d0), (.int 0), (.ref da)])) rfl rfl (hb hby at_9)
  refine own_S (mkF m 10 #[iv mk, iv xi, iv yi, .val (.long d0), .second, .val (.long d1), .second, .val (.long d2), .second, rv da, .unset, .unset, .unset, .unset, .unset, .unset, .unset] []) st3 ?_
  have F4 : own_Ar Z h3 da cA1 .long [(.long d0), (.long (0 : Int64)), (.long (0 : Int64))] := AR3
  have N3 := Fr.snoc X3 N0 ge_da
  have Z3 : n0 ≤ h3.size := by rw [Wr.size W3]; exact Z1
  refine own_S (mkF m 12 #[iv mk, iv xi, iv yi, .val (.long d0), .second, .val (.long d1), .second, .val (.long d2), .second, rv da, .unset, .unset, .unset, .unset, .unset, .unset, .unset] [(.ref da)]) (fun _ k => XS.aload X3.here hx rfl (hb hby at_10) rfl rfl k) ?_
  refine own_S (mkF m 13 #[iv mk, iv xi, iv yi, .val (.long d0), .second, .val (.long d1), .second, .val (.long d2), .second, rv da, .unset, .unset, .unset, .unset, .unset, .unset, .unset] [(.int 1), (.ref da)]) (fun _ k => XS.iconst X3.here hx rfl (hb hby at_12) k) ?_
  refine own_S (mkF m 15 #[iv mk, iv xi, iv yi, .val (.long d0), .second, .val (.long d1), .second, .val (.long d2), .second, rv da, .unset, .unset, .unset, .unset, .unset, .unset, .unset] [(.long d1), (.int 1), (.ref da)]) (fun _ k => XS.lload X3.here hx rfl (hb hby at_13) rfl k) ?_
  obtain ⟨T5, h5, X5, e5, W5, AR5, st5⟩ := own_stJ (j := (1 : Int32)) X3 hx hZ e3 F4 (by decide) (show (1 : Nat) < 3 from by decide) (g := (mkF m 15 #[iv mk, iv xi, iv yi, .val (.long d0), .second, .val (.long d1), .second, .val (.long d2), .second, rv da, .unset, .unset, .unset, .unset, .unset, .unset, .unset] [(.long d1), (.int 1), (.ref da)])) rfl rfl (hb hby at_15)
  refine own_S (mkF m 16 #[iv mk, iv xi, iv yi, .val (.long d0), .second, .val (.long d1), .second, .val (.long d2), .second, rv da, .unset, .unset, .unset, .unset, .unset, .unset, .unset] []) st5 ?_
  have F6 : own_Ar Z h5 da cA1 .long [(.long d0), (.long d1), (.long (0 : Int64))] := AR5
  have N5 := Fr.snoc X5 N3 ge_da
  have Z5 : n0 ≤ h5.size := by rw [Wr.size W5]; exact Z3
  refine own_S (mkF m 18 #[iv mk, iv xi, iv yi, .val (.long d0), .second, .val (.long d1), .second, .val (.long d2), .second, rv da, .unset, .unset, .unset, .unset, .unset, .unset, .unset] [(.ref da)]) (fun _ k => XS.aload X5.here hx rfl (hb hby at_16) rfl rfl k) ?_
  refine own_S (mkF m 19 #[iv mk, iv xi, iv yi, .val (.long d0), .second, .val (.long d1), .second, .val (.long d2), .second, rv da, .unset, .unset, .unset, .unset, .unset, .unset, .unset] [(.int 2), (.ref da)]) (fun _ k => XS.iconst X5.here hx rfl (hb hby at_18) k) ?_
  refine own_S (mkF m 21 #[iv mk, iv xi, iv yi, .val (.long d0), .second, .val (.long d1), .second, .val (.long d2), .second, rv da, .unset, .unset, .unset, .unset, .unset, .unset, .unset] [(.long d2), (.int 2), (.ref da)]) (fun _ k => XS.lload X5.here hx rfl (hb hby at_19) rfl k) ?_
  obtain ⟨T7, h7, X7, e7, W7, AR7, st7⟩ := own_stJ (j := (2 : Int32)) X5 hx hZ e5 F6 (by decide) (show (2 : Nat) < 3 from by decide) (g := (mkF m 21 #[iv mk, iv xi, iv yi, .val (.long d0), .second, .val (.long d1), .second, .val (.long d2), .second, rv da, .unset, .unset, .unset, .unset, .unset, .unset, .unset] [(.long d2), (.int 2), (.ref da)])) rfl rfl (hb hby at_21)
  refine own_S (mkF m 22 #[iv mk, iv xi, iv yi, .val (.long d0), .second, .val (.long d1), .second, .val (.long d2), .second, rv da, .unset, .unset, .unset, .unset, .unset, .unset, .unset] []) st7 ?_
  have F8 : own_Ar Z h7 da cA1 .long [(.long d0), (.long d1), (.long d2)] := AR7
  have N7 := Fr.snoc X7 N5 ge_da
  have Z7 : n0 ≤ h7.size := by rw [Wr.size W7]; exact Z5
  obtain ⟨T9, h9, X9, e9, E9, A9, D9, -, st9⟩ := newO X7 hx hZ hown (own_g hw (i := 1) rfl) (own_g hw (i := 2) rfl) (own_g hw (i := 3) rfl) e7 (g := (mkF m 22 #[iv mk, iv xi, iv yi, .val (.long d0), .second, .val (.long d1), .second, .val (.long d2), .second, rv da, .unset, .unset, .unset, .unset, .unset, .unset, .unset] [])) rfl (hb hby at_22) (by decide) (by decide)
  obtain ⟨a, g9⟩ : ∃ z, z = h7.size := ⟨_, rfl⟩
  rw [← g9] at A9 D9 st9
  have n10 : da ≠ a := Nat.ne_of_lt (Nat.lt_of_lt_of_eq F8.lt g9.symm)
  have ge_a : n0 ≤ a := Nat.le_trans Z7 (Nat.le_of_eq g9.symm)
  have F11 := F8.ext E9
  have Z9 : n0 ≤ h9.size := Nat.le_trans Z7 E9.1
  have F12 : Fld Z h9 a "com/example/stickler/stickler/assignment/NodeQueue" "distance" "[J" .null := D9 (Or.inr (own_g hw (i := 11) rfl)) (ty := (.array .long)) (by decide)
  have F13 : Fld Z h9 a "com/example/stickler/stickler/assignment/NodeQueue" "heap" "[I" .null := D9 (Or.inr (own_g hw (i := 14) rfl)) (ty := (.array .int)) (by decide)
  have F14 : Fld Z h9 a "com/example/stickler/stickler/assignment/NodeQueue" "place" "[I" .null := D9 (Or.inr (own_g hw (i := 16) rfl)) (ty := (.array .int)) (by decide)
  have F15 : Fld Z h9 a "com/example/stickler/stickler/assignment/NodeQueue" "offered" "[J" .null := D9 (Or.inr (own_g hw (i := 18) rfl)) (ty := (.array .long)) (by decide)
  have F16 : Fld Z h9 a "com/example/stickler/stickler/assignment/NodeQueue" "size" "I" (.int (0 : Int32)) := D9 (Or.inl (own_g hw (i := 29) rfl)) (ty := .int) (by decide)
  have F17 : Fld Z h9 a "com/example/stickler/stickler/assignment/NodeQueue" "offers" "J" (.long (0 : Int64)) := D9 (Or.inl (own_g hw (i := 42) rfl)) (ty := .long) (by decide)
  refine own_S (mkF m 25 #[iv mk, iv xi, iv yi, .val (.long d0), .second, .val (.long d1), .second, .val (.long d2), .second, rv da, .unset, .unset, .unset, .unset, .unset, .unset, .unset] [(.ref a)]) st9 ?_
  refine own_S (mkF m 26 #[iv mk, iv xi, iv yi, .val (.long d0), .second, .val (.long d1), .second, .val (.long d2), .second, rv da, .unset, .unset, .unset, .unset, .unset, .unset, .unset] [(.ref a), (.ref a)]) (fun _ k => XS.dup X9.here hx rfl (hb hby at_25) rfl rfl k) ?_
  refine own_S (mkF m 28 #[iv mk, iv xi, iv yi, .val (.long d0), .second, .val (.long d1), .second, .val (.long d2), .second, rv da, .unset, .unset, .unset, .unset, .unset, .unset, .unset] [(.ref da), (.ref a), (.ref a)]) (fun _ k => XS.aload X9.here hx rfl (hb hby at_26) rfl rfl k) ?_
  obtain ⟨_, _, ⟨T18, L18, k18, n18⟩, -, X18, ⟨Lc18, hQ18, l18, y18, z18⟩, st18⟩ := X9.specialBack hx (y := own_y1) rfl hown (mvT hZ (own_g hw (i := 4) rfl)) (mvT hZ (own_g hw (i := 5) rfl)) (mvT hZ (own_g hw (i := 6) rfl)) (by decide) (backOf (W := 1) (own_rmini l Z a0 hw [] (a) (da) (cA1) (d0) (d1) (d2) h9 n0 Z9 A9 F12 F13 F14 F15 F16 F17 F11 ge_a (Ne.symm n10)) hZ (own_g hw (i := 6) rfl) (own_g hw (i := 3) rfl) (by decide) (by decide)) (g := (mkF m 28 #[iv mk, iv xi, iv yi, .val (.long d0), .second, .val (.long d1), .second, .val (.long d2), .second, rv da, .unset, .unset, .unset, .unset, .unset, .unset, .unset] [(.ref da), (.ref a), (.ref a)])) rfl (by rw [hml]; rfl) (Steps.refl _) (a := a) (argsL := [(.ref da)]) (rest := [(.ref a)]) (lenOf own_pd___J_V rfl) rfl (by show 2 * 0 + _ ≤ _; exact Nat.le_of_eq rfl) (hb hby at_28) (fun _ _ => ⟨rfl, e9, (by decide : 2 + 3 ≤ _), (by decide : 9 + 9 ≤ _)⟩)
  dsimp only [Pt.U, Pt.locs, Pt.cells, Pt.slots] at X18 l18 y18 z18 st18 hQ18
  subst l18 y18 z18
  obtain ⟨ha, pa, oa, kh, kp, ko, rfl, N18q, K18q, F19, F20, F21, F22, F23, F24, F25, F26, F27, F28, pp29, pp30, pp31, pp32, pp33, pp34⟩ := hQ18
  have N18 := Fr.app N7 N18q
  refine own_S (mkF m 31 #[iv mk, iv xi, iv yi, .val (.long d0), .second, .val (.long d1), .second, .val (.long d2), .second, rv da, .unset, .unset, .unset, .unset, .unset, .unset, .unset] [(.ref a)]) (fun _ k => st18.trans k) ?_
  have n35 : da ≠ ha := Nat.ne_of_lt (Nat.lt_of_lt_of_le F11.lt pp29)
  have n36 : a ≠ ha := Nat.ne_of_lt (Nat.lt_of_lt_of_le A9.lt pp29)
  have ge_ha : n0 ≤ ha := Nat.le_trans Z9 pp29
  have n37 : da ≠ pa := Nat.ne_of_lt (Nat.lt_of_lt_of_le F11.lt pp30)
  have n38 : a ≠ pa := Nat.ne_of_lt (Nat.lt_of_lt_of_le A9.lt pp30)
  have ge_pa : n0 ≤ pa := Nat.le_trans Z9 pp30
  have n39 : da ≠ oa := Nat.ne_of_lt (Nat.lt_of_lt_of_le F11.lt pp31)
  have n40 : a ≠ oa := Nat.ne_of_lt (Nat.lt_of_lt_of_le A9.lt pp31)
  have ge_oa : n0 ≤ oa := Nat.le_trans Z9 pp31
  have F41 := F11.keep K18q (ninS n10 nin0)
  have Z18 : n0 ≤ T18.heap.size := Nat.le_trans Z9 K18q.1
  refine own_S (mkF m 33 #[iv mk, iv xi, iv yi, .val (.long d0), .second, .val (.long d1), .second, .val (.long d2), .second, rv da, rv a, .unset, .unset, .unset, .unset, .unset, .unset] []) (fun _ k => XS.astore X18.here hx rfl (hb hby at_31) rfl rfl (l' := #[iv mk, iv xi, iv yi, .val (.long d0), .second, .val (.long d1), .second, .val (.long d2), .second, rv da, rv a, .unset, .unset, .unset, .unset, .unset, .unset]) rfl k) ?_
  refine own_S (mkF m 34 #[iv mk, iv xi, iv yi, .val (.long d0), .second, .val (.long d1), .second, .val (.long d2), .second, rv da, rv a, .unset, .unset, .unset, .unset, .unset, .unset] [(.int mk)]) (fun _ k => XS.iloadN X18.here hx rfl (hb hby at_33) rfl k) ?_
  refine own_S (mkF m 35 #[iv mk, iv xi, iv yi, .val (.long d0), .second, .val (.long d1), .second, .val (.long d2), .second, rv da, rv a, .unset, .unset, .unset, .unset, .unset, .unset] [(.int 1), (.int mk)]) (fun _ k => XS.iconst X18.here hx rfl (hb hby at_34) k) ?_
  refine own_S (mkF m 36 #[iv mk, iv xi, iv yi, .val (.long d0), .second, .val (.long d1), .second, .val (.long d2), .second, rv da, rv a, .unset, .unset, .unset, .unset, .unset, .unset] [(.int (mk &&& (1 : Int32)))]) (fun _ k => XS.iand X18.here hx rfl (hb hby at_35) rfl k) ?_
  by_cases hm0 : (mk &&& (1 : Int32)) = (0 : Int32)
  · -- (mk &&& (1 : Int32)) = (0 : Int32)
    refine own_S (mkF m 45 #[iv mk, iv xi, iv yi, .val (.long d0), .second, .val (.long d1), .second, .val (.long d2), .second, rv da, rv a, .unset, .unset, .unset, .unset, .unset, .unset] []) (fun _ k => XS.ifYes X18.here hx rfl (pc0 := 36) (pc' := 45) rfl (hb hby at_36) rfl ((if0 _ _).trans (teq hm0).1) (by decide) (by decide) k) ?_
    refine own_S (mkF m 46 #[iv mk, iv xi, iv yi, .val (.long d0), .second, .val (.long d1), .second, .val (.long d2), .second, rv da, rv a, .unset, .unset, .unset, .unset, .unset, .unset] [(.int mk)]) (fun _ k => XS.iloadN X18.here hx rfl (hb hby at_45) rfl k) ?_
    refine own_S (mkF m 47 #[iv mk, iv xi, iv yi, .val (.long d0), .second, .val (.long d1), .second, .val (.long d2), .second, rv da, rv a, .unset, .unset, .unset, .unset, .unset, .unset] [(.int 2), (.int mk)]) (fun _ k => XS.iconst X18.here hx rfl (hb hby at_46) k) ?_
    refine own_S (mkF m 48 #[iv mk, iv xi, iv yi, .val (.long d0), .second, .val (.long d1), .second, .val (.long d2), .second, rv da, rv a, .unset, .unset, .unset, .unset, .unset, .unset] [(.int (mk &&& (2 : Int32)))]) (fun _ k => XS.iand X18.here hx rfl (hb hby at_47) rfl k) ?_
    by_cases hm1 : (mk &&& (2 : Int32)) = (0 : Int32)
    · -- (mk &&& (2 : Int32)) = (0 : Int32)
      refine own_S (mkF m 57 #[iv mk, iv xi, iv yi, .val (.long d0), .second, .val (.long d1), .second, .val (.long d2), .second, rv da, rv a, .unset, .unset, .unset, .unset, .unset, .unset] []) (fun _ k => XS.ifYes X18.here hx rfl (pc0 := 48) (pc' := 57) rfl (hb hby at_48) rfl ((if0 _ _).trans (teq hm1).1) (by decide) (by decide) k) ?_
      refine own_S (mkF m 58 #[iv mk, iv xi, iv yi, .val (.long d0), .second, .val (.long d1), .second, .val (.long d2), .second, rv da, rv a, .unset, .unset, .unset, .unset, .unset, .unset] [(.int mk)]) (fun _ k => XS.iloadN X18.here hx rfl (hb hby at_57) rfl k) ?_
      refine own_S (mkF m 59 #[iv mk, iv xi, iv yi, .val (.long d0), .second, .val (.long d1), .second, .val (.long d2), .second, rv da, rv a, .unset, .unset, .unset, .unset, .unset, .unset] [(.int 4), (.int mk)]) (fun _ k => XS.iconst X18.here hx rfl (hb hby at_58) k) ?_
      refine own_S (mkF m 60 #[iv mk, iv xi, iv yi, .val (.long d0), .second, .val (.long d1), .second, .val (.long d2), .second, rv da, rv a, .unset, .unset, .unset, .unset, .unset, .unset] [(.int (mk &&& (4 : Int32)))]) (fun _ k => XS.iand X18.here hx rfl (hb hby at_59) rfl k) ?_
      by_cases hm2 : (mk &&& (4 : Int32)) = (0 : Int32)
      · -- (mk &&& (4 : Int32)) = (0 : Int32)
        refine own_S (mkF m 69 #[iv mk, iv xi, iv yi, .val (.long d0), .second, .val (.long d1), .second, .val (.long d2), .second, rv da, rv a, .unset, .unset, .unset, .unset, .unset, .unset] []) (fun _ k => XS.ifYes X18.here hx rfl (pc0 := 60) (pc' := 69) rfl (hb hby at_60) rfl ((if0 _ _).trans (teq hm2).1) (by decide) (by decide) k) ?_
        refine own_S (mkF m 71 #[iv mk, iv xi, iv yi, .val (.long d0), .second, .val (.long d1), .second, .val (.long d2), .second, rv da, rv a, .unset, .unset, .unset, .unset, .unset, .unset] [(.ref a)]) (fun _ k => XS.aload X18.here hx rfl (hb hby at_69) rfl rfl k) ?_
        obtain ⟨cq42, kq42, q42a, q42b, q42c⟩ := isOf hZ rfl F19
        obtain ⟨_, _, ⟨T42, L42, k42, n42⟩, -, X42, ⟨Lc42, hQ42, l42, y42, z42⟩, st42⟩ := X18.virtualBack hx (y := own_y7) (z := own_y7) hown (mvT hZ (own_g hw (i := 23) rfl)) (mvT hZ (own_g hw (i := 24) rfl)) (notFace_of_selects (args := #[]) (mvT hZ (own_g hw (i := 26) rfl))) (mvT hZ (own_g hw (i := 26) rfl)) (mvT hZ (own_g hw (i := 25) rfl)) (by decide) (backOf (W := 0) (own_rmcl0 l Z a0 hw [] (a) (da) (ha) (pa) (oa) (cA1) (kh) (kp) (ko) ([(.long d0), (.long d1), (.long d2)]) ([(.int (0 : Int32)), (.int (0 : Int32)), (.int (0 : Int32))]) ([(.int (-1 : Int32)), (.int (-1 : Int32)), (.int (-1 : Int32))]) ([(.long (0 : Int64)), (.long (0 : Int64)), (.long (0 : Int64))]) ((0 : Int64)) T18.heap n0 Z18 F19 F20 F21 F22 F23 F24 F25 F41 F26 F27 F28 ge_a ge_pa (Ne.symm n10) n36 n38 n40 n35 n37 n39 pp32 pp33 pp34) hZ (own_g hw (i := 27) rfl) (own_g hw (i := 3) rfl) (by decide) (by decide)) q42a q42c (g := (mkF m 71 #[iv mk, iv xi, iv yi, .val (.long d0), .second, .val (.long d1), .second, .val (.long d2), .second, rv da, rv a, .unset, .unset, .unset, .unset, .unset, .unset] [(.ref a)])) rfl (by rw [hml]; rfl) (Steps.refl _) (argsL := []) (rest := []) (lenOf own_pd___V rfl) rfl (by show 2 * 0 + _ ≤ _; exact Nat.le_of_eq rfl) (hb hby at_71) (fun _ _ => ⟨rfl, rfl, (by decide : 5 + 0 ≤ _), (by decide : 18 + 0 ≤ _)⟩)
        dsimp only [Pt.U, Pt.locs, Pt.cells, Pt.slots] at X42 l42 y42 z42 st42 hQ42
        subst l42 y42 z42
        obtain ⟨rfl, N42q, K42q, F43, F44, F45, F46, F47, F48, F49, F50⟩ := hQ42
        have N42 := Fr.app N18 N42q
        refine own_S (mkF m 74 #[iv mk, iv xi, iv yi, .val (.long d0), .second, .val (.long d1), .second, .val (.long d2), .second, rv da, rv a, .unset, .unset, .unset, .unset, .unset, .unset] []) (fun _ k => st42.trans k) ?_
        have F51 := F41.keep K42q (ninS n10 (ninS n37 nin0))
        have F52 := F26.keep K42q (ninS (Ne.symm n36) (ninS pp32 nin0))
        have F53 := F28.keep K42q (ninS (Ne.symm n40) (ninS (Ne.symm pp34) nin0))
        have Z42 : n0 ≤ T42.heap.size := Nat.le_trans Z18 K42q.1
        have F54 : own_Ar Z T42.heap pa kp .int [(.int (-1 : Int32)), (.int (-1 : Int32)), (.int (-1 : Int32))] := F50
        exact own_tail l Z a0 hw mk xi yi d0 d1 d2 h0 n0 p e s m _ below meth c _ _ _ (a) (da) (ha) (pa) (oa) (cA1) (kh) (kp) (ko) ((.int (0 : Int32))) ((.int (0 : Int32))) ((.int (0 : Int32))) ((0 : Int64)) ((0 : Int64)) ((0 : Int64)) ((0 : Int64)) hx hby hml hZ hown hlk hret X42 rfl N42 Z42 F43 F44 F45 F46 F47 F48 F49 F51 F52 F54 F53 ge_a ge_ha ge_pa ge_oa (Ne.symm n10) n36 n38 n40 n35 n37 n39 pp32 pp33 pp34 (by decide)
      · -- not (mk &&& (4 : Int32)) = (0 : Int32)
        refine own_S (mkF m 63 #[iv mk, iv xi, iv yi, .val (.long d0), .second, .val (.long d1), .second, .val (.long d2), .second, rv da, rv a, .unset, .unset, .unset, .unset, .unset, .unset] []) (fun _ k => XS.ifNo X18.here hx rfl (hb hby at_60) rfl ((if0 _ _).trans (feq hm2).1) k) ?_
        refine own_S (mkF m 65 #[iv mk, iv xi, iv yi, .val (.long d0), .second, .val (.long d1), .second, .val (.long d2), .second, rv da, rv a, .unset, .unset, .unset, .unset, .unset, .unset] [(.ref a)]) (fun _ k => XS.aload X18.here hx rfl (hb hby at_63) rfl rfl k) ?_
        refine own_S (mkF m 66 #[iv mk, iv xi, iv yi, .val (.long d0), .second, .val (.long d1), .second, .val (.long d2), .second, rv da, rv a, .unset, .unset, .unset, .unset, .unset, .unset] [(.int 2), (.ref a)]) (fun _ k => XS.iconst X18.here hx rfl (hb hby at_65) k) ?_
        obtain ⟨cq55, kq55, q55a, q55b, q55c⟩ := isOf hZ rfl F19
        obtain ⟨_, _, ⟨T55, L55, k55, n55⟩, -, X55, ⟨Lc55, hQ55, l55, y55, z55⟩, st55⟩ := X18.virtualBack hx (y := own_y6) (z := own_y6) hown (mvT hZ (own_g hw (i := 36) rfl)) (mvT hZ (own_g hw (i := 37) rfl)) (notFace_of_selects (args := #[]) (mvT hZ (own_g hw (i := 39) rfl))) (mvT hZ (own_g hw (i := 39) rfl)) (mvT hZ (own_g hw (i := 38) rfl)) (by decide) (backOf (W := 0) (own_rmofA l Z a0 hw [] (a) (da) (ha) (pa) (oa) (cA1) (kh) (kp) (ko) ([(.long d0), (.long d1), (.long d2)]) ([(.int (0 : Int32)), (.int (0 : Int32)), (.int (0 : Int32))]) ([(.int (-1 : Int32)), (.int (-1 : Int32)), (.int (-1 : Int32))]) ([(.long (0 : Int64)), (.long (0 : Int64)), (.long (0 : Int64))]) ((2 : Int32)) ((0 : Int64)) T18.heap n0 Z18 F19 F20 F21 F22 F23 F24 F25 F41 F26 F27 F28 ge_a ge_ha ge_pa ge_oa (Ne.symm n10) n36 n38 n40 n35 n37 n39 pp32 pp33 pp34 (by decide) (show (2 : Nat) < 3 from by decide) (show (2 : Nat) < 3 from by decide) rfl (show (0 : Nat) < 3 from by decide)) hZ (own_g hw (i := 40) rfl) (own_g hw (i := 3) rfl) (by decide) (by decide)) q55a q55c (g := (mkF m 66 #[iv mk, iv xi, iv yi, .val (.long d0), .second, .val (.long d1), .second, .val (.long d2), .second, rv da, rv a, .unset, .unset, .unset, .unset, .unset, .unset] [(.int 2), (.ref a)])) rfl (by rw [hml]; rfl) (Steps.refl _) (argsL := [(.int 2)]) (rest := []) (lenOf own_pd__I_V rfl) rfl (by show 2 * 0 + _ ≤ _; exact Nat.le_of_eq rfl) (hb hby at_66) (fun _ _ => ⟨rfl, rfl, (by decide : 5 + 0 ≤ _), (by decide : 18 + 0 ≤ _)⟩)
        dsimp only [Pt.U, Pt.locs, Pt.cells, Pt.slots] at X55 l55 y55 z55 st55 hQ55
        subst l55 y55 z55
        obtain ⟨rfl, N55q, K55q, F56, F57, F58, F59, F60, F61, F62, F63, F64, F65⟩ := hQ55
        have N55 := Fr.app N18 N55q
        refine own_S (mkF m 69 #[iv mk, iv xi, iv yi, .val (.long d0), .second, .val (.long d1), .second, .val (.long d2), .second, rv da, rv a, .unset, .unset, .unset, .unset, .unset, .unset] []) (fun _ k => st55.trans k) ?_
        have F66 := F41.keep K55q (ninS n10 (ninS n35 (ninS n37 (ninS n39 nin0))))
        have Z55 : n0 ≤ T55.heap.size := Nat.le_trans Z18 K55q.1
        have F67 : own_Ar Z T55.heap ha kh .int [(.int (2 : Int32)), (.int (0 : Int32)), (.int (0 : Int32))] := F63
        have F68 : own_Ar Z T55.heap pa kp .int [(.int (-1 : Int32)), (.int (-1 : Int32)), (.int (0 : Int32))] := F64
        have F69 : own_Ar Z T55.heap oa ko .long [(.long (0 : Int64)), (.long (0 : Int64)), (.long (1 : Int64))] := F65
        have F70 : Fld Z T55.heap a "com/example/stickler/stickler/assignment/NodeQueue" "offers" "J" (.long (1 : Int64)) := F62
        refine own_S (mkF m 71 #[iv mk, iv xi, iv yi, .val (.long d0), .second, .val (.long d1), .second, .val (.long d2), .second, rv da, rv a, .unset, .unset, .unset, .unset, .unset, .unset] [(.ref a)]) (fun _ k => XS.aload X55.here hx rfl (hb hby at_69) rfl rfl k) ?_
        obtain ⟨cq71, kq71, q71a, q71b, q71c⟩ := isOf hZ rfl F56
        obtain ⟨_, _, ⟨T71, L71, k71, n71⟩, -, X71, ⟨Lc71, hQ71, l71, y71, z71⟩, st71⟩ := X55.virtualBack hx (y := own_y7) (z := own_y7) hown (mvT hZ (own_g hw (i := 23) rfl)) (mvT hZ (own_g hw (i := 24) rfl)) (notFace_of_selects (args := #[]) (mvT hZ (own_g hw (i := 26) rfl))) (mvT hZ (own_g hw (i := 26) rfl)) (mvT hZ (own_g hw (i := 25) rfl)) (by decide) (backOf (W := 0) (own_rmcl1 l Z a0 hw [] (a) (da) (ha) (pa) (oa) (cA1) (kh) (kp) (ko) ([(.long d0), (.long d1), (.long d2)]) ([(.int (2 : Int32)), (.int (0 : Int32)), (.int (0 : Int32))]) ([(.int (-1 : Int32)), (.int (-1 : Int32)), (.int (0 : Int32))]) ([(.long (0 : Int64)), (.long (0 : Int64)), (.long (1 : Int64))]) ((1 : Int64)) ((2 : Int32)) T55.heap n0 Z55 F56 F57 F58 F59 F60 F61 F70 F66 F67 F68 F69 ge_a ge_pa (Ne.symm n10) n36 n38 n40 n35 n37 n39 pp32 pp33 pp34 rfl (by decide) (show (2 : Nat) < 3 from by decide)) hZ (own_g hw (i := 27) rfl) (own_g hw (i := 3) rfl) (by decide) (by decide)) q71a q71c (g := (mkF m 71 #[iv mk, iv xi, iv yi, .val (.long d0), .second, .val (.long d1), .second, .val (.long d2), .second, rv da, rv a, .unset, .unset, .unset, .unset, .unset, .unset] [(.ref a)])) rfl (by rw [hml]; rfl) (Steps.refl _) (argsL := []) (rest := []) (lenOf own_pd___V rfl) rfl (by show 2 * 0 + _ ≤ _; exact Nat.le_of_eq rfl) (hb hby at_71) (fun _ _ => ⟨rfl, rfl, (by decide : 5 + 0 ≤ _), (by decide : 18 + 0 ≤ _)⟩)
        dsimp only [Pt.U, Pt.locs, Pt.cells, Pt.slots] at X71 l71 y71 z71 st71 hQ71
        subst l71 y71 z71
        obtain ⟨rfl, N71q, K71q, F72, F73, F74, F75, F76, F77, F78, F79⟩ := hQ71
        have N71 := Fr.app N55 N71q
        refine own_S (mkF m 74 #[iv mk, iv xi, iv yi, .val (.long d0), .second, .val (.long d1), .second, .val (.long d2), .second, rv da, rv a, .unset, .unset, .unset, .unset, .unset, .unset] []) (fun _ k => st71.trans k) ?_
        have F80 := F66.keep K71q (ninS n10 (ninS n37 nin0))
        have F81 := F67.keep K71q (ninS (Ne.symm n36) (ninS pp32 nin0))
        have F82 := F69.keep K71q (ninS (Ne.symm n40) (ninS (Ne.symm pp34) nin0))
        have Z71 : n0 ≤ T71.heap.size := Nat.le_trans Z55 K71q.1
        have F83 : own_Ar Z T71.heap pa kp .int [(.int (-1 : Int32)), (.int (-1 : Int32)), (.int (-1 : Int32))] := F79
        exact own_tail l Z a0 hw mk xi yi d0 d1 d2 h0 n0 p e s m _ below meth c _ _ _ (a) (da) (ha) (pa) (oa) (cA1) (kh) (kp) (ko) ((.int (2 : Int32))) ((.int (0 : Int32))) ((.int (0 : Int32))) ((0 : Int64)) ((0 : Int64)) ((1 : Int64)) ((1 : Int64)) hx hby hml hZ hown hlk hret X71 rfl N71 Z71 F72 F73 F74 F75 F76 F77 F78 F80 F81 F83 F82 ge_a ge_ha ge_pa ge_oa (Ne.symm n10) n36 n38 n40 n35 n37 n39 pp32 pp33 pp34 (by decide)
    · -- not (mk &&& (2 : Int32)) = (0 : Int32)
      refine own_S (mkF m 51 #[iv mk, iv xi, iv yi, .val (.long d0), .second, .val (.long d1), .second, .val (.long d2), .second, rv da, rv a, .unset, .unset, .unset, .unset, .unset, .unset] []) (fun _ k => XS.ifNo X18.here hx rfl (hb hby at_48) rfl ((if0 _ _).trans (feq hm1).1) k) ?_
      refine own_S (mkF m 53 #[iv mk, iv xi, iv yi, .val (.long d0), .second, .val (.long d1), .second, .val (.long d2), .second, rv da, rv a, .unset, .unset, .unset, .unset, .unset, .unset] [(.ref a)]) (fun _ k => XS.aload X18.here hx rfl (hb hby at_51) rfl rfl k) ?_
      refine own_S (mkF m 54 #[iv mk, iv xi, iv yi, .val (.long d0), .second, .val (.long d1), .second, .val (.long d2), .second, rv da, rv a, .unset, .unset, .unset, .unset, .unset, .unset] [(.int 1), (.ref a)]) (fun _ k => XS.iconst X18.here hx rfl (hb hby at_53) k) ?_
      obtain ⟨cq84, kq84, q84a, q84b, q84c⟩ := isOf hZ rfl F19
      obtain ⟨_, _, ⟨T84, L84, k84, n84⟩, -, X84, ⟨Lc84, hQ84, l84, y84, z84⟩, st84⟩ := X18.virtualBack hx (y := own_y6) (z := own_y6) hown (mvT hZ (own_g hw (i := 36) rfl)) (mvT hZ (own_g hw (i := 37) rfl)) (notFace_of_selects (args := #[]) (mvT hZ (own_g hw (i := 39) rfl))) (mvT hZ (own_g hw (i := 39) rfl)) (mvT hZ (own_g hw (i := 38) rfl)) (by decide) (backOf (W := 0) (own_rmofA l Z a0 hw [] (a) (da) (ha) (pa) (oa) (cA1) (kh) (kp) (ko) ([(.long d0), (.long d1), (.long d2)]) ([(.int (0 : Int32)), (.int (0 : Int32)), (.int (0 : Int32))]) ([(.int (-1 : Int32)), (.int (-1 : Int32)), (.int (-1 : Int32))]) ([(.long (0 : Int64)), (.long (0 : Int64)), (.long (0 : Int64))]) ((1 : Int32)) ((0 : Int64)) T18.heap n0 Z18 F19 F20 F21 F22 F23 F24 F25 F41 F26 F27 F28 ge_a ge_ha ge_pa ge_oa (Ne.symm n10) n36 n38 n40 n35 n37 n39 pp32 pp33 pp34 (by decide) (show (1 : Nat) < 3 from by decide) (show (1 : Nat) < 3 from by decide) rfl (show (0 : Nat) < 3 from by decide)) hZ (own_g hw (i := 40) rfl) (own_g hw (i := 3) rfl) (by decide) (by decide)) q84a q84c (g := (mkF m 54 #[iv mk, iv xi, iv yi, .val (.long d0), .second, .val (.long d1), .second, .val (.long d2), .second, rv da, rv a, .unset, .unset, .unset, .unset, .unset, .unset] [(.int 1), (.ref a)])) rfl (by rw [hml]; rfl) (Steps.refl _) (argsL := [(.int 1)]) (rest := []) (lenOf own_pd__I_V rfl) rfl (by show 2 * 0 + _ ≤ _; exact Nat.le_of_eq rfl) (hb hby at_54) (fun _ _ => ⟨rfl, rfl, (by decide : 5 + 0 ≤ _), (by decide : 18 + 0 ≤ _)⟩)
      dsimp only [Pt.U, Pt.locs, Pt.cells, Pt.slots] at X84 l84 y84 z84 st84 hQ84
      subst l84 y84 z84
      obtain ⟨rfl, N84q, K84q, F85, F86, F87, F88, F89, F90, F91, F92, F93, F94⟩ := hQ84
      have N84 := Fr.app N18 N84q
      refine own_S (mkF m 57 #[iv mk, iv xi, iv yi, .val (.long d0), .second, .val (.long d1), .second, .val (.long d2), .second, rv da, rv a, .unset, .unset, .unset, .unset, .unset, .unset] []) (fun _ k => st84.trans k) ?_
      have F95 := F41.keep K84q (ninS n10 (ninS n35 (ninS n37 (ninS n39 nin0))))
      have Z84 : n0 ≤ T84.heap.size := Nat.le_trans Z18 K84q.1
      have F96 : own_Ar Z T84.heap ha kh .int [(.int (1 : Int32)), (.int (0 : Int32)), (.int (0 : Int32))] := F92
      have F97 : own_Ar Z T84.heap pa kp .int [(.int (-1 : Int32)), (.int (0 : Int32)), (.int (-1 : Int32))] := F93
      have F98 : own_Ar Z T84.heap oa ko .long [(.long (0 : Int64)), (.long (1 : Int64)), (.long (0 : Int64))] := F94
      have F99 : Fld Z T84.heap a "com/example/stickler/stickler/assignment/NodeQueue" "offers" "J" (.long (1 : Int64)) := F91
      refine own_S (mkF m 58 #[iv mk, iv xi, iv yi, .val (.long d0), .second, .val (.long d1), .second, .val (.long d2), .second, rv da, rv a, .unset, .unset, .unset, .unset, .unset, .unset] [(.int mk)]) (fun _ k => XS.iloadN X84.here hx rfl (hb hby at_57) rfl k) ?_
      refine own_S (mkF m 59 #[iv mk, iv xi, iv yi, .val (.long d0), .second, .val (.long d1), .second, .val (.long d2), .second, rv da, rv a, .unset, .unset, .unset, .unset, .unset, .unset] [(.int 4), (.int mk)]) (fun _ k => XS.iconst X84.here hx rfl (hb hby at_58) k) ?_
      refine own_S (mkF m 60 #[iv mk, iv xi, iv yi, .val (.long d0), .second, .val (.long d1), .second, .val (.long d2), .second, rv da, rv a, .unset, .unset, .unset, .unset, .unset, .unset] [(.int (mk &&& (4 : Int32)))]) (fun _ k => XS.iand X84.here hx rfl (hb hby at_59) rfl k) ?_
      by_cases hm2 : (mk &&& (4 : Int32)) = (0 : Int32)
      · -- (mk &&& (4 : Int32)) = (0 : Int32)
        refine own_S (mkF m 69 #[iv mk, iv xi, iv yi, .val (.long d0), .second, .val (.long d1), .second, .val (.long d2), .second, rv da, rv a, .unset, .unset, .unset, .unset, .unset, .unset] []) (fun _ k => XS.ifYes X84.here hx rfl (pc0 := 60) (pc' := 69) rfl (hb hby at_60) rfl ((if0 _ _).trans (teq hm2).1) (by decide) (by decide) k) ?_
        refine own_S (mkF m 71 #[iv mk, iv xi, iv yi, .val (.long d0), .second, .val (.long d1), .second, .val (.long d2), .second, rv da, rv a, .unset, .unset, .unset, .unset, .unset, .unset] [(.ref a)]) (fun _ k => XS.aload X84.here hx rfl (hb hby at_69) rfl rfl k) ?_
        obtain ⟨cq100, kq100, q100a, q100b, q100c⟩ := isOf hZ rfl F85
        obtain ⟨_, _, ⟨T100, L100, k100, n100⟩, -, X100, ⟨Lc100, hQ100, l100, y100, z100⟩, st100⟩ := X84.virtualBack hx (y := own_y7) (z := own_y7) hown (mvT hZ (own_g hw (i := 23) rfl)) (mvT hZ (own_g hw (i := 24) rfl)) (notFace_of_selects (args := #[]) (mvT hZ (own_g hw (i := 26) rfl))) (mvT hZ (own_g hw (i := 26) rfl)) (mvT hZ (own_g hw (i := 25) rfl)) (by decide) (backOf (W := 0) (own_rmcl1 l Z a0 hw [] (a) (da) (ha) (pa) (oa) (cA1) (kh) (kp) (ko) ([(.long d0), (.long d1), (.long d2)]) ([(.int (1 : Int32)), (.int (0 : Int32)), (.int (0 : Int32))]) ([(.int (-1 : Int32)), (.int (0 : Int32)), (.int (-1 : Int32))]) ([(.long (0 : Int64)), (.long (1 : Int64)), (.long (0 : Int64))]) ((1 : Int64)) ((1 : Int32)) T84.heap n0 Z84 F85 F86 F87 F88 F89 F90 F99 F95 F96 F97 F98 ge_a ge_pa (Ne.symm n10) n36 n38 n40 n35 n37 n39 pp32 pp33 pp34 rfl (by decide) (show (1 : Nat) < 3 from by decide)) hZ (own_g hw (i := 27) rfl) (own_g hw (i := 3) rfl) (by decide) (by decide)) q100a q100c (g := (mkF m 71 #[iv mk, iv xi, iv yi, .val (.long d0), .second, .val (.long d1), .second, .val (.long d2), .second, rv da, rv a, .unset, .unset, .unset, .unset, .unset, .unset] [(.ref a)])) rfl (by rw [hml]; rfl) (Steps.refl _) (argsL := []) (rest := []) (lenOf own_pd___V rfl) rfl (by show 2 * 0 + _ ≤ _; exact Nat.le_of_eq rfl) (hb hby at_71) (fun _ _ => ⟨rfl, rfl, (by decide : 5 + 0 ≤ _), (by decide : 18 + 0 ≤ _)⟩)
        dsimp only [Pt.U, Pt.locs, Pt.cells, Pt.slots] at X100 l100 y100 z100 st100 hQ100
        subst l100 y100 z100
        obtain ⟨rfl, N100q, K100q, F101, F102, F103, F104, F105, F106, F107, F108⟩ := hQ100
        have N100 := Fr.app N84 N100q
        refine own_S (mkF m 74 #[iv mk, iv xi, iv yi, .val (.long d0), .second, .val (.long d1), .second, .val (.long d2), .second, rv da, rv a, .unset, .unset, .unset, .unset, .unset, .unset] []) (fun _ k => st100.trans k) ?_
        have F109 := F95.keep K100q (ninS n10 (ninS n37 nin0))
        have F110 := F96.keep K100q (ninS (Ne.symm n36) (ninS pp32 nin0))
        have F111 := F98.keep K100q (ninS (Ne.symm n40) (ninS (Ne.symm pp34) nin0))
        have Z100 : n0 ≤ T100.heap.size := Nat.le_trans Z84 K100q.1
        have F112 : own_Ar Z T100.heap pa kp .int [(.int (-1 : Int32)), (.int (-1 : Int32)), (.int (-1 : Int32))] := F108
        exact own_tail l Z a0 hw mk xi yi d0 d1 d2 h0 n0 p e s m _ below meth c _ _ _ (a) (da) (ha) (pa) (oa) (cA1) (kh) (kp) (ko) ((.int (1 : Int32))) ((.int (0 : Int32))) ((.int (0 : Int32))) ((0 : Int64)) ((1 : Int64)) ((0 : Int64)) ((1 : Int64)) hx hby hml hZ hown hlk hret X100 rfl N100 Z100 F101 F102 F103 F104 F105 F106 F107 F109 F110 F112 F111 ge_a ge_ha ge_pa ge_oa (Ne.symm n10) n36 n38 n40 n35 n37 n39 pp32 pp33 pp34 (by decide)
      · -- not (mk &&& (4 : Int32)) = (0 : Int32)
        refine own_S (mkF m 63 #[iv mk, iv xi, iv yi, .val (.long d0), .second, .val (.long d1), .second, .val (.long d2), .second, rv da, rv a, .unset, .unset, .unset, .unset, .unset, .unset] []) (fun _ k => XS.ifNo X84.here hx rfl (hb hby at_60) rfl ((if0 _ _).trans (feq hm2).1) k) ?_
        refine own_S (mkF m 65 #[iv mk, iv xi, iv yi, .val (.long d0), .second, .val (.long d1), .second, .val (.long d2), .second, rv da, rv a, .unset, .unset, .unset, .unset, .unset, .unset] [(.ref a)]) (fun _ k => XS.aload X84.here hx rfl (hb hby at_63) rfl rfl k) ?_
        refine own_S (mkF m 66 #[iv mk, iv xi, iv yi, .val (.long d0), .second, .val (.long d1), .second, .val (.long d2), .second, rv da, rv a, .unset, .unset, .unset, .unset, .unset, .unset] [(.int 2), (.ref a)]) (fun _ k => XS.iconst X84.here hx rfl (hb hby at_65) k) ?_
        by_cases hB2 : (d2 < d1 ∨ (d2 = d1 ∧ (1 : Int64) < ((1 : Int64) + (1 : Int64))))
        ·
          obtain ⟨cq113, kq113, q113a, q113b, q113c⟩ := isOf hZ rfl F85
          obtain ⟨_, _, ⟨T113, L113, k113, n113⟩, -, X113, ⟨Lc113, hQ113, l113, y113, z113⟩, st113⟩ := X84.virtualBack hx (y := own_y6) (z := own_y6) hown (mvT hZ (own_g hw (i := 36) rfl)) (mvT hZ (own_g hw (i := 37) rfl)) (notFace_of_selects (args := #[]) (mvT hZ (own_g hw (i := 39) rfl))) (mvT hZ (own_g hw (i := 39) rfl)) (mvT hZ (own_g hw (i := 38) rfl)) (by decide) (backOf (W := 0) (own_rmof1m l Z a0 hw [] (a) (da) (ha) (pa) (oa) (cA1) (kh) (kp) (ko) ([(.long d0), (.long d1), (.long d2)]) ([(.int (1 : Int32)), (.int (0 : Int32)), (.int (0 : Int32))]) ([(.int (-1 : Int32)), (.int (0 : Int32)), (.int (-1 : Int32))]) ([(.long (0 : Int64)), (.long (1 : Int64)), (.long (0 : Int64))]) ((2 : Int32)) ((1 : Int32)) ((1 : Int64)) (d2) (d1) ((1 : Int64)) T84.heap n0 Z84 F85 F86 F87 F88 F89 F90 F99 F95 F96 F97 F98 ge_a ge_ha ge_pa ge_oa (Ne.symm n10) n36 n38 n40 n35 n37 n39 pp32 pp33 pp34 (by decide) (show (2 : Nat) < 3 from by decide) (show (2 : Nat) < 3 from by decide) rfl (show (1 : Nat) < 3 from by decide) rfl (by decide) (show (1 : Nat) < 3 from by decide) (by decide) rfl rfl rfl hB2) hZ (own_g hw (i := 40) rfl) (own_g hw (i := 3) rfl) (by decide) (by decide)) q113a q113c (g := (mkF m 66 #[iv mk, iv xi, iv yi, .val (.long d0), .second, .val (.long d1), .second, .val (.long d2), .second, rv da, rv a, .unset, .unset, .unset, .unset, .unset, .unset] [(.int 2), (.ref a)])) rfl (by rw [hml]; rfl) (Steps.refl _) (argsL := [(.int 2)]) (rest := []) (lenOf own_pd__I_V rfl) rfl (by show 2 * 0 + _ ≤ _; exact Nat.le_of_eq rfl) (hb hby at_66) (fun _ _ => ⟨rfl, rfl, (by decide : 5 + 0 ≤ _), (by decide : 18 + 0 ≤ _)⟩)
          dsimp only [Pt.U, Pt.locs, Pt.cells, Pt.slots] at X113 l113 y113 z113 st113 hQ113
          subst l113 y113 z113
          obtain ⟨rfl, N113q, K113q, F114, F115, F116, F117, F118, F119, F120, F121, F122, F123⟩ := hQ113
          have N113 := Fr.app N84 N113q
          refine own_S (mkF m 69 #[iv mk, iv xi, iv yi, .val (.long d0), .second, .val (.long d1), .second, .val (.long d2), .second, rv da, rv a, .unset, .unset, .unset, .unset, .unset, .unset] []) (fun _ k => st113.trans k) ?_
          have F124 := F95.keep K113q (ninS n10 (ninS n35 (ninS n37 (ninS n39 nin0))))
          have Z113 : n0 ≤ T113.heap.size := Nat.le_trans Z84 K113q.1
          have F125 : own_Ar Z T113.heap ha kh .int [(.int (2 : Int32)), (.int (1 : Int32)), (.int (0 : Int32))] := F121
          have F126 : own_Ar Z T113.heap pa kp .int [(.int (-1 : Int32)), (.int (1 : Int32)), (.int (0 : Int32))] := F122
          have F127 : own_Ar Z T113.heap oa ko .long [(.long (0 : Int64)), (.long (1 : Int64)), (.long (2 : Int64))] := F123
          have F128 : Fld Z T113.heap a "com/example/stickler/stickler/assignment/NodeQueue" "offers" "J" (.long (2 : Int64)) := F120
          refine own_S (mkF m 71 #[iv mk, iv xi, iv yi, .val (.long d0), .second, .val (.long d1), .second, .val (.long d2), .second, rv da, rv a, .unset, .unset, .unset, .unset, .unset, .unset] [(.ref a)]) (fun _ k => XS.aload X113.here hx rfl (hb hby at_69) rfl rfl k) ?_
          obtain ⟨cq129, kq129, q129a, q129b, q129c⟩ := isOf hZ rfl F114
          obtain ⟨_, _, ⟨T129, L129, k129, n129⟩, -, X129, ⟨Lc129, hQ129, l129, y129, z129⟩, st129⟩ := X113.virtualBack hx (y := own_y7) (z := own_y7) hown (mvT hZ (own_g hw (i := 23) rfl)) (mvT hZ (own_g hw (i := 24) rfl)) (notFace_of_selects (args := #[]) (mvT hZ (own_g hw (i := 26) rfl))) (mvT hZ (own_g hw (i := 26) rfl)) (mvT hZ (own_g hw (i := 25) rfl)) (by decide) (backOf (W := 0) (own_rmcl2 l Z a0 hw [] (a) (da) (ha) (pa) (oa) (cA1) (kh) (kp) (ko) ([(.long d0), (.long d1), (.long d2)]) ([(.int (2 : Int32)), (.int (1 : Int32)), (.int (0 : Int32))]) ([(.int (-1 : Int32)), (.int (1 : Int32)), (.int (0 : Int32))]) ([(.long (0 : Int64)), (.long (1 : Int64)), (.long (2 : Int64))]) ((2 : Int64)) ((2 : Int32)) ((1 : Int32)) T113.heap n0 Z113 F114 F115 F116 F117 F118 F119 F128 F124 F125 F126 F127 ge_a ge_pa (Ne.symm n10) n36 n38 n40 n35 n37 n39 pp32 pp33 pp34 rfl (by decide) (show (2 : Nat) < 3 from by decide) rfl (by decide) (show (1 : Nat) < 3 from by decide)) hZ (own_g hw (i := 27) rfl) (own_g hw (i := 3) rfl) (by decide) (by decide)) q129a q129c (g := (mkF m 71 #[iv mk, iv xi, iv yi, .val (.long d0), .second, .val (.long d1), .second, .val (.long d2), .second, rv da, rv a, .unset, .unset, .unset, .unset, .unset, .unset] [(.ref a)])) rfl (by rw [hml]; rfl) (Steps.refl _) (argsL := []) (rest := []) (lenOf own_pd___V rfl) rfl (by show 2 * 0 + _ ≤ _; exact Nat.le_of_eq rfl) (hb hby at_71) (fun _ _ => ⟨rfl, rfl, (by decide : 5 + 0 ≤ _), (by decide : 18 + 0 ≤ _)⟩)
          dsimp only [Pt.U, Pt.locs, Pt.cells, Pt.slots] at X129 l129 y129 z129 st129 hQ129
          subst l129 y129 z129
          obtain ⟨rfl, N129q, K129q, F130, F131, F132, F133, F134, F135, F136, F137⟩ := hQ129
          have N129 := Fr.app N113 N129q
          refine own_S (mkF m 74 #[iv mk, iv xi, iv yi, .val (.long d0), .second, .val (.long d1), .second, .val (.long d2), .second, rv da, rv a, .unset, .unset, .unset, .unset, .unset, .unset] []) (fun _ k => st129.trans k) ?_
          have F138 := F124.keep K129q (ninS n10 (ninS n37 nin0))
          have F139 := F125.keep K129q (ninS (Ne.symm n36) (ninS pp32 nin0))
          have F140 := F127.keep K129q (ninS (Ne.symm n40) (ninS (Ne.symm pp34) nin0))
          have Z129 : n0 ≤ T129.heap.size := Nat.le_trans Z113 K129q.1
          have F141 : own_Ar Z T129.heap pa kp .int [(.int (-1 : Int32)), (.int (-1 : Int32)), (.int (-1 : Int32))] := F137
          exact own_tail l Z a0 hw mk xi yi d0 d1 d2 h0 n0 p e s m _ below meth c _ _ _ (a) (da) (ha) (pa) (oa) (cA1) (kh) (kp) (ko) ((.int (2 : Int32))) ((.int (1 : Int32))) ((.int (0 : Int32))) ((0 : Int64)) ((1 : Int64)) ((2 : Int64)) ((2 : Int64)) hx hby hml hZ hown hlk hret X129 rfl N129 Z129 F130 F131 F132 F133 F134 F135 F136 F138 F139 F141 F140 ge_a ge_ha ge_pa ge_oa (Ne.symm n10) n36 n38 n40 n35 n37 n39 pp32 pp33 pp34 (by decide)
        ·
          obtain ⟨cq142, kq142, q142a, q142b, q142c⟩ := isOf hZ rfl F85
          obtain ⟨_, _, ⟨T142, L142, k142, n142⟩, -, X142, ⟨Lc142, hQ142, l142, y142, z142⟩, st142⟩ := X84.virtualBack hx (y := own_y6) (z := own_y6) hown (mvT hZ (own_g hw (i := 36) rfl)) (mvT hZ (own_g hw (i := 37) rfl)) (notFace_of_selects (args := #[]) (mvT hZ (own_g hw (i := 39) rfl))) (mvT hZ (own_g hw (i := 39) rfl)) (mvT hZ (own_g hw (i := 38) rfl)) (by decide) (backOf (W := 0) (own_rmof1n l Z a0 hw [] (a) (da) (ha) (pa) (oa) (cA1) (kh) (kp) (ko) ([(.long d0), (.long d1), (.long d2)]) ([(.int (1 : Int32)), (.int (0 : Int32)), (.int (0 : Int32))]) ([(.int (-1 : Int32)), (.int (0 : Int32)), (.int (-1 : Int32))]) ([(.long (0 : Int64)), (.long (1 : Int64)), (.long (0 : Int64))]) ((2 : Int32)) ((1 : Int32)) ((1 : Int64)) (d2) (d1) ((1 : Int64)) T84.heap n0 Z84 F85 F86 F87 F88 F89 F90 F99 F95 F96 F97 F98 ge_a ge_ha ge_pa ge_oa (Ne.symm n10) n36 n38 n40 n35 n37 n39 pp32 pp33 pp34 (by decide) (show (2 : Nat) < 3 from by decide) (show (2 : Nat) < 3 from by decide) rfl (show (1 : Nat) < 3 from by decide) rfl (by decide) (show (1 : Nat) < 3 from by decide) (by decide) rfl rfl rfl hB2) hZ (own_g hw (i := 40) rfl) (own_g hw (i := 3) rfl) (by decide) (by decide)) q142a q142c (g := (mkF m 66 #[iv mk, iv xi, iv yi, .val (.long d0), .second, .val (.long d1), .second, .val (.long d2), .second, rv da, rv a, .unset, .unset, .unset, .unset, .unset, .unset] [(.int 2), (.ref a)])) rfl (by rw [hml]; rfl) (Steps.refl _) (argsL := [(.int 2)]) (rest := []) (lenOf own_pd__I_V rfl) rfl (by show 2 * 0 + _ ≤ _; exact Nat.le_of_eq rfl) (hb hby at_66) (fun _ _ => ⟨rfl, rfl, (by decide : 5 + 0 ≤ _), (by decide : 18 + 0 ≤ _)⟩)
          dsimp only [Pt.U, Pt.locs, Pt.cells, Pt.slots] at X142 l142 y142 z142 st142 hQ142
          subst l142 y142 z142
          obtain ⟨rfl, N142q, K142q, F143, F144, F145, F146, F147, F148, F149, F150, F151, F152⟩ := hQ142
          have N142 := Fr.app N84 N142q
          refine own_S (mkF m 69 #[iv mk, iv xi, iv yi, .val (.long d0), .second, .val (.long d1), .second, .val (.long d2), .second, rv da, rv a, .unset, .unset, .unset, .unset, .unset, .unset] []) (fun _ k => st142.trans k) ?_
          have F153 := F95.keep K142q (ninS n10 (ninS n35 (ninS n37 (ninS n39 nin0))))
          have Z142 : n0 ≤ T142.heap.size := Nat.le_trans Z84 K142q.1
          have F154 : own_Ar Z T142.heap ha kh .int [(.int (1 : Int32)), (.int (2 : Int32)), (.int (0 : Int32))] := F150
          have F155 : own_Ar Z T142.heap pa kp .int [(.int (-1 : Int32)), (.int (0 : Int32)), (.int (1 : Int32))] := F151
          have F156 : own_Ar Z T142.heap oa ko .long [(.long (0 : Int64)), (.long (1 : Int64)), (.long (2 : Int64))] := F152
          have F157 : Fld Z T142.heap a "com/example/stickler/stickler/assignment/NodeQueue" "offers" "J" (.long (2 : Int64)) := F149
          refine own_S (mkF m 71 #[iv mk, iv xi, iv yi, .val (.long d0), .second, .val (.long d1), .second, .val (.long d2), .second, rv da, rv a, .unset, .unset, .unset, .unset, .unset, .unset] [(.ref a)]) (fun _ k => XS.aload X142.here hx rfl (hb hby at_69) rfl rfl k) ?_
          obtain ⟨cq158, kq158, q158a, q158b, q158c⟩ := isOf hZ rfl F143
          obtain ⟨_, _, ⟨T158, L158, k158, n158⟩, -, X158, ⟨Lc158, hQ158, l158, y158, z158⟩, st158⟩ := X142.virtualBack hx (y := own_y7) (z := own_y7) hown (mvT hZ (own_g hw (i := 23) rfl)) (mvT hZ (own_g hw (i := 24) rfl)) (notFace_of_selects (args := #[]) (mvT hZ (own_g hw (i := 26) rfl))) (mvT hZ (own_g hw (i := 26) rfl)) (mvT hZ (own_g hw (i := 25) rfl)) (by decide) (backOf (W := 0) (own_rmcl2 l Z a0 hw [] (a) (da) (ha) (pa) (oa) (cA1) (kh) (kp) (ko) ([(.long d0), (.long d1), (.long d2)]) ([(.int (1 : Int32)), (.int (2 : Int32)), (.int (0 : Int32))]) ([(.int (-1 : Int32)), (.int (0 : Int32)), (.int (1 : Int32))]) ([(.long (0 : Int64)), (.long (1 : Int64)), (.long (2 : Int64))]) ((2 : Int64)) ((1 : Int32)) ((2 : Int32)) T142.heap n0 Z142 F143 F144 F145 F146 F147 F148 F157 F153 F154 F155 F156 ge_a ge_pa (Ne.symm n10) n36 n38 n40 n35 n37 n39 pp32 pp33 pp34 rfl (by decide) (show (1 : Nat) < 3 from by decide) rfl (by decide) (show (2 : Nat) < 3 from by decide)) hZ (own_g hw (i := 27) rfl) (own_g hw (i := 3) rfl) (by decide) (by decide)) q158a q158c (g := (mkF m 71 #[iv mk, iv xi, iv yi, .val (.long d0), .second, .val (.long d1), .second, .val (.long d2), .second, rv da, rv a, .unset, .unset, .unset, .unset, .unset, .unset] [(.ref a)])) rfl (by rw [hml]; rfl) (Steps.refl _) (argsL := []) (rest := []) (lenOf own_pd___V rfl) rfl (by show 2 * 0 + _ ≤ _; exact Nat.le_of_eq rfl) (hb hby at_71) (fun _ _ => ⟨rfl, rfl, (by decide : 5 + 0 ≤ _), (by decide : 18 + 0 ≤ _)⟩)
          dsimp only [Pt.U, Pt.locs, Pt.cells, Pt.slots] at X158 l158 y158 z158 st158 hQ158
          subst l158 y158 z158
          obtain ⟨rfl, N158q, K158q, F159, F160, F161, F162, F163, F164, F165, F166⟩ := hQ158
          have N158 := Fr.app N142 N158q
          refine own_S (mkF m 74 #[iv mk, iv xi, iv yi, .val (.long d0), .second, .val (.long d1), .second, .val (.long d2), .second, rv da, rv a, .unset, .unset, .unset, .unset, .unset, .unset] []) (fun _ k => st158.trans k) ?_
          have F167 := F153.keep K158q (ninS n10 (ninS n37 nin0))
          have F168 := F154.keep K158q (ninS (Ne.symm n36) (ninS pp32 nin0))
          have F169 := F156.keep K158q (ninS (Ne.symm n40) (ninS (Ne.symm pp34) nin0))
          have Z158 : n0 ≤ T158.heap.size := Nat.le_trans Z142 K158q.1
          have F170 : own_Ar Z T158.heap pa kp .int [(.int (-1 : Int32)), (.int (-1 : Int32)), (.int (-1 : Int32))] := F166
          exact own_tail l Z a0 hw mk xi yi d0 d1 d2 h0 n0 p e s m _ below meth c _ _ _ (a) (da) (ha) (pa) (oa) (cA1) (kh) (kp) (ko) ((.int (1 : Int32))) ((.int (2 : Int32))) ((.int (0 : Int32))) ((0 : Int64)) ((1 : Int64)) ((2 : Int64)) ((2 : Int64)) hx hby hml hZ hown hlk hret X158 rfl N158 Z158 F159 F160 F161 F162 F163 F164 F165 F167 F168 F170 F169 ge_a ge_ha ge_pa ge_oa (Ne.symm n10) n36 n38 n40 n35 n37 n39 pp32 pp33 pp34 (by decide)
  · -- not (mk &&& (1 : Int32)) = (0 : Int32)
    refine own_S (mkF m 39 #[iv mk, iv xi, iv yi, .val (.long d0), .second, .val (.long d1), .second, .val (.long d2), .second, rv da, rv a, .unset, .unset, .unset, .unset, .unset, .unset] []) (fun _ k => XS.ifNo X18.here hx rfl (hb hby at_36) rfl ((if0 _ _).trans (feq hm0).1) k) ?_
    refine own_S (mkF m 41 #[iv mk, iv xi, iv yi, .val (.long d0), .second, .val (.long d1), .second, .val (.long d2), .second, rv da, rv a, .unset, .unset, .unset, .unset, .unset, .unset] [(.ref a)]) (fun _ k => XS.aload X18.here hx rfl (hb hby at_39) rfl rfl k) ?_
    refine own_S (mkF m 42 #[iv mk, iv xi, iv yi, .val (.long d0), .second, .val (.long d1), .second, .val (.long d2), .second, rv da, rv a, .unset, .unset, .unset, .unset, .unset, .unset] [(.int 0), (.ref a)]) (fun _ k => XS.iconst X18.here hx rfl (hb hby at_41) k) ?_
    obtain ⟨cq171, kq171, q171a, q171b, q171c⟩ := isOf hZ rfl F19
    obtain ⟨_, _, ⟨T171, L171, k171, n171⟩, -, X171, ⟨Lc171, hQ171, l171, y171, z171⟩, st171⟩ := X18.virtualBack hx (y := own_y6) (z := own_y6) hown (mvT hZ (own_g hw (i := 36) rfl)) (mvT hZ (own_g hw (i := 37) rfl)) (notFace_of_selects (args := #[]) (mvT hZ (own_g hw (i := 39) rfl))) (mvT hZ (own_g hw (i := 39) rfl)) (mvT hZ (own_g hw (i := 38) rfl)) (by decide) (backOf (W := 0) (own_rmofA l Z a0 hw [] (a) (da) (ha) (pa) (oa) (cA1) (kh) (kp) (ko) ([(.long d0), (.long d1), (.long d2)]) ([(.int (0 : Int32)), (.int (0 : Int32)), (.int (0 : Int32))]) ([(.int (-1 : Int32)), (.int (-1 : Int32)), (.int (-1 : Int32))]) ([(.long (0 : Int64)), (.long (0 : Int64)), (.long (0 : Int64))]) ((0 : Int32)) ((0 : Int64)) T18.heap n0 Z18 F19 F20 F21 F22 F23 F24 F25 F41 F26 F27 F28 ge_a ge_ha ge_pa ge_oa (Ne.symm n10) n36 n38 n40 n35 n37 n39 pp32 pp33 pp34 (by decide) (show (0 : Nat) < 3 from by decide) (show (0 : Nat) < 3 from by decide) rfl (show (0 : Nat) < 3 from by decide)) hZ (own_g hw (i := 40) rfl) (own_g hw (i := 3) rfl) (by decide) (by decide)) q171a q171c (g := (mkF m 42 #[iv mk, iv xi, iv yi, .val (.long d0), .second, .val (.long d1), .second, .val (.long d2), .second, rv da, rv a, .unset, .unset, .unset, .unset, .unset, .unset] [(.int 0), (.ref a)])) rfl (by rw [hml]; rfl) (Steps.refl _) (argsL := [(.int 0)]) (rest := []) (lenOf own_pd__I_V rfl) rfl (by show 2 * 0 + _ ≤ _; exact Nat.le_of_eq rfl) (hb hby at_42) (fun _ _ => ⟨rfl, rfl, (by decide : 5 + 0 ≤ _), (by decide : 18 + 0 ≤ _)⟩)
    dsimp only [Pt.U, Pt.locs, Pt.cells, Pt.slots] at X171 l171 y171 z171 st171 hQ171
    subst l171 y171 z171
    obtain ⟨rfl, N171q, K171q, F172, F173, F174, F175, F176, F177, F178, F179, F180, F181⟩ := hQ171
    have N171 := Fr.app N18 N171q
    refine own_S (mkF m 45 #[iv mk, iv xi, iv yi, .val (.long d0), .second, .val (.long d1), .second, .val (.long d2), .second, rv da, rv a, .unset, .unset, .unset, .unset, .unset, .unset] []) (fun _ k => st171.trans k) ?_
    have F182 := F41.keep K171q (ninS n10 (ninS n35 (ninS n37 (ninS n39 nin0))))
    have Z171 : n0 ≤ T171.heap.size := Nat.le_trans Z18 K171q.1
    have F183 : own_Ar Z T171.heap ha kh .int [(.int (0 : Int32)), (.int (0 : Int32)), (.int (0 : Int32))] := F179
    have F184 : own_Ar Z T171.heap pa kp .int [(.int (0 : Int32)), (.int (-1 : Int32)), (.int (-1 : Int32))] := F180
    have F185 : own_Ar Z T171.heap oa ko .long [(.long (1 : Int64)), (.long (0 : Int64)), (.long (0 : Int64))] := F181
    have F186 : Fld Z T171.heap a "com/example/stickler/stickler/assignment/NodeQueue" "offers" "J" (.long (1 : Int64)) := F178
    refine own_S (mkF m 46 #[iv mk, iv xi, iv yi, .val (.long d0), .second, .val (.long d1), .second, .val (.long d2), .second, rv da, rv a, .unset, .unset, .unset, .unset, .unset, .unset] [(.int mk)]) (fun _ k => XS.iloadN X171.here hx rfl (hb hby at_45) rfl k) ?_
    refine own_S (mkF m 47 #[iv mk, iv xi, iv yi, .val (.long d0), .second, .val (.long d1), .second, .val (.long d2), .second, rv da, rv a, .unset, .unset, .unset, .unset, .unset, .unset] [(.int 2), (.int mk)]) (fun _ k => XS.iconst X171.here hx rfl (hb hby at_46) k) ?_
    refine own_S (mkF m 48 #[iv mk, iv xi, iv yi, .val (.long d0), .second, .val (.long d1), .second, .val (.long d2), .second, rv da, rv a, .unset, .unset, .unset, .unset, .unset, .unset] [(.int (mk &&& (2 : Int32)))]) (fun _ k => XS.iand X171.here hx rfl (hb hby at_47) rfl k) ?_
    by_cases hm1 : (mk &&& (2 : Int32)) = (0 : Int32)
    · -- (mk &&& (2 : Int32)) = (0 : Int32)
      refine own_S (mkF m 57 #[iv mk, iv xi, iv yi, .val (.long d0), .second, .val (.long d1), .second, .val (.long d2), .second, rv da, rv a, .unset, .unset, .unset, .unset, .unset, .unset] []) (fun _ k => XS.ifYes X171.here hx rfl (pc0 := 48) (pc' := 57) rfl (hb hby at_48) rfl ((if0 _ _).trans (teq hm1).1) (by decide) (by decide) k) ?_
      refine own_S (mkF m 58 #[iv mk, iv xi, iv yi, .val (.long d0), .second, .val (.long d1), .second, .val (.long d2), .second, rv da, rv a, .unset, .unset, .unset, .unset, .unset, .unset] [(.int mk)]) (fun _ k => XS.iloadN X171.here hx rfl (hb hby at_57) rfl k) ?_
      refine own_S (mkF m 59 #[iv mk, iv xi, iv yi, .val (.long d0), .second, .val (.long d1), .second, .val (.long d2), .second, rv da, rv a, .unset, .unset, .unset, .unset, .unset, .unset] [(.int 4), (.int mk)]) (fun _ k => XS.iconst X171.here hx rfl (hb hby at_58) k) ?_
      refine own_S (mkF m 60 #[iv mk, iv xi, iv yi, .val (.long d0), .second, .val (.long d1), .second, .val (.long d2), .second, rv da, rv a, .unset, .unset, .unset, .unset, .unset, .unset] [(.int (mk &&& (4 : Int32)))]) (fun _ k => XS.iand X171.here hx rfl (hb hby at_59) rfl k) ?_
      by_cases hm2 : (mk &&& (4 : Int32)) = (0 : Int32)
      · -- (mk &&& (4 : Int32)) = (0 : Int32)
        refine own_S (mkF m 69 #[iv mk, iv xi, iv yi, .val (.long d0), .second, .val (.long d1), .second, .val (.long d2), .second, rv da, rv a, .unset, .unset, .unset, .unset, .unset, .unset] []) (fun _ k => XS.ifYes X171.here hx rfl (pc0 := 60) (pc' := 69) rfl (hb hby at_60) rfl ((if0 _ _).trans (teq hm2).1) (by decide) (by decide) k) ?_
        refine own_S (mkF m 71 #[iv mk, iv xi, iv yi, .val (.long d0), .second, .val (.long d1), .second, .val (.long d2), .second, rv da, rv a, .unset, .unset, .unset, .unset, .unset, .unset] [(.ref a)]) (fun _ k => XS.aload X171.here hx rfl (hb hby at_69) rfl rfl k) ?_
        obtain ⟨cq187, kq187, q187a, q187b, q187c⟩ := isOf hZ rfl F172
        obtain ⟨_, _, ⟨T187, L187, k187, n187⟩, -, X187, ⟨Lc187, hQ187, l187, y187, z187⟩, st187⟩ := X171.virtualBack hx (y := own_y7) (z := own_y7) hown (mvT hZ (own_g hw (i := 23) rfl)) (mvT hZ (own_g hw (i := 24) rfl)) (notFace_of_selects (args := #[]) (mvT hZ (own_g hw (i := 26) rfl))) (mvT hZ (own_g hw (i := 26) rfl)) (mvT hZ (own_g hw (i := 25) rfl)) (by decide) (backOf (W := 0) (own_rmcl1 l Z a0 hw [] (a) (da) (ha) (pa) (oa) (cA1) (kh) (kp) (ko) ([(.long d0), (.long d1), (.long d2)]) ([(.int (0 : Int32)), (.int (0 : Int32)), (.int (0 : Int32))]) ([(.int (0 : Int32)), (.int (-1 : Int32)), (.int (-1 : Int32))]) ([(.long (1 : Int64)), (.long (0 : Int64)), (.long (0 : Int64))]) ((1 : Int64)) ((0 : Int32)) T171.heap n0 Z171 F172 F173 F174 F175 F176 F177 F186 F182 F183 F184 F185 ge_a ge_pa (Ne.symm n10) n36 n38 n40 n35 n37 n39 pp32 pp33 pp34 rfl (by decide) (show (0 : Nat) < 3 from by decide)) hZ (own_g hw (i := 27) rfl) (own_g hw (i := 3) rfl) (by decide) (by decide)) q187a q187c (g := (mkF m 71 #[iv mk, iv xi, iv yi, .val (.long d0), .second, .val (.long d1), .second, .val (.long d2), .second, rv da, rv a, .unset, .unset, .unset, .unset, .unset, .unset] [(.ref a)])) rfl (by rw [hml]; rfl) (Steps.refl _) (argsL := []) (rest := []) (lenOf own_pd___V rfl) rfl (by show 2 * 0 + _ ≤ _; exact Nat.le_of_eq rfl) (hb hby at_71) (fun _ _ => ⟨rfl, rfl, (by decide : 5 + 0 ≤ _), (by decide : 18 + 0 ≤ _)⟩)
        dsimp only [Pt.U, Pt.locs, Pt.cells, Pt.slots] at X187 l187 y187 z187 st187 hQ187
        subst l187 y187 z187
        obtain ⟨rfl, N187q, K187q, F188, F189, F190, F191, F192, F193, F194, F195⟩ := hQ187
        have N187 := Fr.app N171 N187q
        refine own_S (mkF m 74 #[iv mk, iv xi, iv yi, .val (.long d0), .second, .val (.long d1), .second, .val (.long d2), .second, rv da, rv a, .unset, .unset, .unset, .unset, .unset, .unset] []) (fun _ k => st187.trans k) ?_
        have F196 := F182.keep K187q (ninS n10 (ninS n37 nin0))
        have F197 := F183.keep K187q (ninS (Ne.symm n36) (ninS pp32 nin0))
        have F198 := F185.keep K187q (ninS (Ne.symm n40) (ninS (Ne.symm pp34) nin0))
        have Z187 : n0 ≤ T187.heap.size := Nat.le_trans Z171 K187q.1
        have F199 : own_Ar Z T187.heap pa kp .int [(.int (-1 : Int32)), (.int (-1 : Int32)), (.int (-1 : Int32))] := F195
        exact own_tail l Z a0 hw mk xi yi d0 d1 d2 h0 n0 p e s m _ below meth c _ _ _ (a) (da) (ha) (pa) (oa) (cA1) (kh) (kp) (ko) ((.int (0 : Int32))) ((.int (0 : Int32))) ((.int (0 : Int32))) ((1 : Int64)) ((0 : Int64)) ((0 : Int64)) ((1 : Int64)) hx hby hml hZ hown hlk hret X187 rfl N187 Z187 F188 F189 F190 F191 F192 F193 F194 F196 F197 F199 F198 ge_a ge_ha ge_pa ge_oa (Ne.symm n10) n36 n38 n40 n35 n37 n39 pp32 pp33 pp34 (by decide)
      · -- not (mk &&& (4 : Int32)) = (0 : Int32)
        refine own_S (mkF m 63 #[iv mk, iv xi, iv yi, .val (.long d0), .second, .val (.long d1), .second, .val (.long d2), .second, rv da, rv a, .unset, .unset, .unset, .unset, .unset, .unset] []) (fun _ k => XS.ifNo X171.here hx rfl (hb hby at_60) rfl ((if0 _ _).trans (feq hm2).1) k) ?_
        refine own_S (mkF m 65 #[iv mk, iv xi, iv yi, .val (.long d0), .second, .val (.long d1), .second, .val (.long d2), .second, rv da, rv a, .unset, .unset, .unset, .unset, .unset, .unset] [(.ref a)]) (fun _ k => XS.aload X171.here hx rfl (hb hby at_63) rfl rfl k) ?_
        refine own_S (mkF m 66 #[iv mk, iv xi, iv yi, .val (.long d0), .second, .val (.long d1), .second, .val (.long d2), .second, rv da, rv a, .unset, .unset, .unset, .unset, .unset, .unset] [(.int 2), (.ref a)]) (fun _ k => XS.iconst X171.here hx rfl (hb hby at_65) k) ?_
        by_cases hB2 : (d2 < d0 ∨ (d2 = d0 ∧ (1 : Int64) < ((1 : Int64) + (1 : Int64))))
        ·
          obtain ⟨cq200, kq200, q200a, q200b, q200c⟩ := isOf hZ rfl F172
          obtain ⟨_, _, ⟨T200, L200, k200, n200⟩, -, X200, ⟨Lc200, hQ200, l200, y200, z200⟩, st200⟩ := X171.virtualBack hx (y := own_y6) (z := own_y6) hown (mvT hZ (own_g hw (i := 36) rfl)) (mvT hZ (own_g hw (i := 37) rfl)) (notFace_of_selects (args := #[]) (mvT hZ (own_g hw (i := 39) rfl))) (mvT hZ (own_g hw (i := 39) rfl)) (mvT hZ (own_g hw (i := 38) rfl)) (by decide) (backOf (W := 0) (own_rmof1m l Z a0 hw [] (a) (da) (ha) (pa) (oa) (cA1) (kh) (kp) (ko) ([(.long d0), (.long d1), (.long d2)]) ([(.int (0 : Int32)), (.int (0 : Int32)), (.int (0 : Int32))]) ([(.int (0 : Int32)), (.int (-1 : Int32)), (.int (-1 : Int32))]) ([(.long (1 : Int64)), (.long (0 : Int64)), (.long (0 : Int64))]) ((2 : Int32)) ((0 : Int32)) ((1 : Int64)) (d2) (d0) ((1 : Int64)) T171.heap n0 Z171 F172 F173 F174 F175 F176 F177 F186 F182 F183 F184 F185 ge_a ge_ha ge_pa ge_oa (Ne.symm n10) n36 n38 n40 n35 n37 n39 pp32 pp33 pp34 (by decide) (show (2 : Nat) < 3 from by decide) (show (2 : Nat) < 3 from by decide) rfl (show (1 : Nat) < 3 from by decide) rfl (by decide) (show (0 : Nat) < 3 from by decide) (by decide) rfl rfl rfl hB2) hZ (own_g hw (i := 40) rfl) (own_g hw (i := 3) rfl) (by decide) (by decide)) q200a q200c (g := (mkF m 66 #[iv mk, iv xi, iv yi, .val (.long d0), .second, .val (.long d1), .second, .val (.long d2), .second, rv da, rv a, .unset, .unset, .unset, .unset, .unset, .unset] [(.int 2), (.ref a)])) rfl (by rw [hml]; rfl) (Steps.refl _) (argsL := [(.int 2)]) (rest := []) (lenOf own_pd__I_V rfl) rfl (by show 2 * 0 + _ ≤ _; exact Nat.le_of_eq rfl) (hb hby at_66) (fun _ _ => ⟨rfl, rfl, (by decide : 5 + 0 ≤ _), (by decide : 18 + 0 ≤ _)⟩)
          dsimp only [Pt.U, Pt.locs, Pt.cells, Pt.slots] at X200 l200 y200 z200 st200 hQ200
          subst l200 y200 z200
          obtain ⟨rfl, N200q, K200q, F201, F202, F203, F204, F205, F206, F207, F208, F209, F210⟩ := hQ200
          have N200 := Fr.app N171 N200q
          refine own_S (mkF m 69 #[iv mk, iv xi, iv yi, .val (.long d0), .second, .val (.long d1), .second, .val (.long d2), .second, rv da, rv a, .unset, .unset, .unset, .unset, .unset, .unset] []) (fun _ k => st200.trans k) ?_
          have F211 := F182.keep K200q (ninS n10 (ninS n35 (ninS n37 (ninS n39 nin0))))
          have Z200 : n0 ≤ T200.heap.size := Nat.le_trans Z171 K200q.1
          have F212 : own_Ar Z T200.heap ha kh .int [(.int (2 : Int32)), (.int (0 : Int32)), (.int (0 : Int32))] := F208
          have F213 : own_Ar Z T200.heap pa kp .int [(.int (1 : Int32)), (.int (-1 : Int32)), (.int (0 : Int32))] := F209
          have F214 : own_Ar Z T200.heap oa ko .long [(.long (1 : Int64)), (.long (0 : Int64)), (.long (2 : Int64))] := F210
          have F215 : Fld Z T200.heap a "com/example/stickler/stickler/assignment/NodeQueue" "offers" "J" (.long (2 : Int64)) := F207
          refine own_S (mkF m 71 #[iv mk, iv xi, iv yi, .val (.long d0), .second, .val (.long d1), .second, .val (.long d2), .second, rv da, rv a, .unset, .unset, .unset, .unset, .unset, .unset] [(.ref a)]) (fun _ k => XS.aload X200.here hx rfl (hb hby at_69) rfl rfl k) ?_
          obtain ⟨cq216, kq216, q216a, q216b, q216c⟩ := isOf hZ rfl F201
          obtain ⟨_, _, ⟨T216, L216, k216, n216⟩, -, X216, ⟨Lc216, hQ216, l216, y216, z216⟩, st216⟩ := X200.virtualBack hx (y := own_y7) (z := own_y7) hown (mvT hZ (own_g hw (i := 23) rfl)) (mvT hZ (own_g hw (i := 24) rfl)) (notFace_of_selects (args := #[]) (mvT hZ (own_g hw (i := 26) rfl))) (mvT hZ (own_g hw (i := 26) rfl)) (mvT hZ (own_g hw (i := 25) rfl)) (by decide) (backOf (W := 0) (own_rmcl2 l Z a0 hw [] (a) (da) (ha) (pa) (oa) (cA1) (kh) (kp) (ko) ([(.long d0), (.long d1), (.long d2)]) ([(.int (2 : Int32)), (.int (0 : Int32)), (.int (0 : Int32))]) ([(.int (1 : Int32)), (.int (-1 : Int32)), (.int (0 : Int32))]) ([(.long (1 : Int64)), (.long (0 : Int64)), (.long (2 : Int64))]) ((2 : Int64)) ((2 : Int32)) ((0 : Int32)) T200.heap n0 Z200 F201 F202 F203 F204 F205 F206 F215 F211 F212 F213 F214 ge_a ge_pa (Ne.symm n10) n36 n38 n40 n35 n37 n39 pp32 pp33 pp34 rfl (by decide) (show (2 : Nat) < 3 from by decide) rfl (by decide) (show (0 : Nat) < 3 from by decide)) hZ (own_g hw (i := 27) rfl) (own_g hw (i := 3) rfl) (by decide) (by decide)) q216a q216c (g := (mkF m 71 #[iv mk, iv xi, iv yi, .val (.long d0), .second, .val (.long d1), .second, .val (.long d2), .second, rv da, rv a, .unset, .unset, .unset, .unset, .unset, .unset] [(.ref a)])) rfl (by rw [hml]; rfl) (Steps.refl _) (argsL := []) (rest := []) (lenOf own_pd___V rfl) rfl (by show 2 * 0 + _ ≤ _; exact Nat.le_of_eq rfl) (hb hby at_71) (fun _ _ => ⟨rfl, rfl, (by decide : 5 + 0 ≤ _), (by decide : 18 + 0 ≤ _)⟩)
          dsimp only [Pt.U, Pt.locs, Pt.cells, Pt.slots] at X216 l216 y216 z216 st216 hQ216
          subst l216 y216 z216
          obtain ⟨rfl, N216q, K216q, F217, F218, F219, F220, F221, F222, F223, F224⟩ := hQ216
          have N216 := Fr.app N200 N216q
          refine own_S (mkF m 74 #[iv mk, iv xi, iv yi, .val (.long d0), .second, .val (.long d1), .second, .val (.long d2), .second, rv da, rv a, .unset, .unset, .unset, .unset, .unset, .unset] []) (fun _ k => st216.trans k) ?_
          have F225 := F211.keep K216q (ninS n10 (ninS n37 nin0))
          have F226 := F212.keep K216q (ninS (Ne.symm n36) (ninS pp32 nin0))
          have F227 := F214.keep K216q (ninS (Ne.symm n40) (ninS (Ne.symm pp34) nin0))
          have Z216 : n0 ≤ T216.heap.size := Nat.le_trans Z200 K216q.1
          have F228 : own_Ar Z T216.heap pa kp .int [(.int (-1 : Int32)), (.int (-1 : Int32)), (.int (-1 : Int32))] := F224
          exact own_tail l Z a0 hw mk xi yi d0 d1 d2 h0 n0 p e s m _ below meth c _ _ _ (a) (da) (ha) (pa) (oa) (cA1) (kh) (kp) (ko) ((.int (2 : Int32))) ((.int (0 : Int32))) ((.int (0 : Int32))) ((1 : Int64)) ((0 : Int64)) ((2 : Int64)) ((2 : Int64)) hx hby hml hZ hown hlk hret X216 rfl N216 Z216 F217 F218 F219 F220 F221 F222 F223 F225 F226 F228 F227 ge_a ge_ha ge_pa ge_oa (Ne.symm n10) n36 n38 n40 n35 n37 n39 pp32 pp33 pp34 (by decide)
        ·
          obtain ⟨cq229, kq229, q229a, q229b, q229c⟩ := isOf hZ rfl F172
          obtain ⟨_, _, ⟨T229, L229, k229, n229⟩, -, X229, ⟨Lc229, hQ229, l229, y229, z229⟩, st229⟩ := X171.virtualBack hx (y := own_y6) (z := own_y6) hown (mvT hZ (own_g hw (i := 36) rfl)) (mvT hZ (own_g hw (i := 37) rfl)) (notFace_of_selects (args := #[]) (mvT hZ (own_g hw (i := 39) rfl))) (mvT hZ (own_g hw (i := 39) rfl)) (mvT hZ (own_g hw (i := 38) rfl)) (by decide) (backOf (W := 0) (own_rmof1n l Z a0 hw [] (a) (da) (ha) (pa) (oa) (cA1) (kh) (kp) (ko) ([(.long d0), (.long d1), (.long d2)]) ([(.int (0 : Int32)), (.int (0 : Int32)), (.int (0 : Int32))]) ([(.int (0 : Int32)), (.int (-1 : Int32)), (.int (-1 : Int32))]) ([(.long (1 : Int64)), (.long (0 : Int64)), (.long (0 : Int64))]) ((2 : Int32)) ((0 : Int32)) ((1 : Int64)) (d2) (d0) ((1 : Int64)) T171.heap n0 Z171 F172 F173 F174 F175 F176 F177 F186 F182 F183 F184 F185 ge_a ge_ha ge_pa ge_oa (Ne.symm n10) n36 n38 n40 n35 n37 n39 pp32 pp33 pp34 (by decide) (show (2 : Nat) < 3 from by decide) (show (2 : Nat) < 3 from by decide) rfl (show (1 : Nat) < 3 from by decide) rfl (by decide) (show (0 : Nat) < 3 from by decide) (by decide) rfl rfl rfl hB2) hZ (own_g hw (i := 40) rfl) (own_g hw (i := 3) rfl) (by decide) (by decide)) q229a q229c (g := (mkF m 66 #[iv mk, iv xi, iv yi, .val (.long d0), .second, .val (.long d1), .second, .val (.long d2), .second, rv da, rv a, .unset, .unset, .unset, .unset, .unset, .unset] [(.int 2), (.ref a)])) rfl (by rw [hml]; rfl) (Steps.refl _) (argsL := [(.int 2)]) (rest := []) (lenOf own_pd__I_V rfl) rfl (by show 2 * 0 + _ ≤ _; exact Nat.le_of_eq rfl) (hb hby at_66) (fun _ _ => ⟨rfl, rfl, (by decide : 5 + 0 ≤ _), (by decide : 18 + 0 ≤ _)⟩)
          dsimp only [Pt.U, Pt.locs, Pt.cells, Pt.slots] at X229 l229 y229 z229 st229 hQ229
          subst l229 y229 z229
          obtain ⟨rfl, N229q, K229q, F230, F231, F232, F233, F234, F235, F236, F237, F238, F239⟩ := hQ229
          have N229 := Fr.app N171 N229q
          refine own_S (mkF m 69 #[iv mk, iv xi, iv yi, .val (.long d0), .second, .val (.long d1), .second, .val (.long d2), .second, rv da, rv a, .unset, .unset, .unset, .unset, .unset, .unset] []) (fun _ k => st229.trans k) ?_
          have F240 := F182.keep K229q (ninS n10 (ninS n35 (ninS n37 (ninS n39 nin0))))
          have Z229 : n0 ≤ T229.heap.size := Nat.le_trans Z171 K229q.1
          have F241 : own_Ar Z T229.heap ha kh .int [(.int (0 : Int32)), (.int (2 : Int32)), (.int (0 : Int32))] := F237
          have F242 : own_Ar Z T229.heap pa kp .int [(.int (0 : Int32)), (.int (-1 : Int32)), (.int (1 : Int32))] := F238
          have F243 : own_Ar Z T229.heap oa ko .long [(.long (1 : Int64)), (.long (0 : Int64)), (.long (2 : Int64))] := F239
          have F244 : Fld Z T229.heap a "com/example/stickler/stickler/assignment/NodeQueue" "offers" "J" (.long (2 : Int64)) := F236
          refine own_S (mkF m 71 #[iv mk, iv xi, iv yi, .val (.long d0), .second, .val (.long d1), .second, .val (.long d2), .second, rv da, rv a, .unset, .unset, .unset, .unset, .unset, .unset] [(.ref a)]) (fun _ k => XS.aload X229.here hx rfl (hb hby at_69) rfl rfl k) ?_
          obtain ⟨cq245, kq245, q245a, q245b, q245c⟩ := isOf hZ rfl F230
          obtain ⟨_, _, ⟨T245, L245, k245, n245⟩, -, X245, ⟨Lc245, hQ245, l245, y245, z245⟩, st245⟩ := X229.virtualBack hx (y := own_y7) (z := own_y7) hown (mvT hZ (own_g hw (i := 23) rfl)) (mvT hZ (own_g hw (i := 24) rfl)) (notFace_of_selects (args := #[]) (mvT hZ (own_g hw (i := 26) rfl))) (mvT hZ (own_g hw (i := 26) rfl)) (mvT hZ (own_g hw (i := 25) rfl)) (by decide) (backOf (W := 0) (own_rmcl2 l Z a0 hw [] (a) (da) (ha) (pa) (oa) (cA1) (kh) (kp) (ko) ([(.long d0), (.long d1), (.long d2)]) ([(.int (0 : Int32)), (.int (2 : Int32)), (.int (0 : Int32))]) ([(.int (0 : Int32)), (.int (-1 : Int32)), (.int (1 : Int32))]) ([(.long (1 : Int64)), (.long (0 : Int64)), (.long (2 : Int64))]) ((2 : Int64)) ((0 : Int32)) ((2 : Int32)) T229.heap n0 Z229 F230 F231 F232 F233 F234 F235 F244 F240 F241 F242 F243 ge_a ge_pa (Ne.symm n10) n36 n38 n40 n35 n37 n39 pp32 pp33 pp34 rfl (by decide) (show (0 : Nat) < 3 from by decide) rfl (by decide) (show (2 : Nat) < 3 from by decide)) hZ (own_g hw (i := 27) rfl) (own_g hw (i := 3) rfl) (by decide) (by decide)) q245a q245c (g := (mkF m 71 #[iv mk, iv xi, iv yi, .val (.long d0), .second, .val (.long d1), .second, .val (.long d2), .second, rv da, rv a, .unset, .unset, .unset, .unset, .unset, .unset] [(.ref a)])) rfl (by rw [hml]; rfl) (Steps.refl _) (argsL := []) (rest := []) (lenOf own_pd___V rfl) rfl (by show 2 * 0 + _ ≤ _; exact Nat.le_of_eq rfl) (hb hby at_71) (fun _ _ => ⟨rfl, rfl, (by decide : 5 + 0 ≤ _), (by decide : 18 + 0 ≤ _)⟩)
          dsimp only [Pt.U, Pt.locs, Pt.cells, Pt.slots] at X245 l245 y245 z245 st245 hQ245
          subst l245 y245 z245
          obtain ⟨rfl, N245q, K245q, F246, F247, F248, F249, F250, F251, F252, F253⟩ := hQ245
          have N245 := Fr.app N229 N245q
          refine own_S (mkF m 74 #[iv mk, iv xi, iv yi, .val (.long d0), .second, .val (.long d1), .second, .val (.long d2), .second, rv da, rv a, .unset, .unset, .unset, .unset, .unset, .unset] []) (fun _ k => st245.trans k) ?_
          have F254 := F240.keep K245q (ninS n10 (ninS n37 nin0))
          have F255 := F241.keep K245q (ninS (Ne.symm n36) (ninS pp32 nin0))
          have F256 := F243.keep K245q (ninS (Ne.symm n40) (ninS (Ne.symm pp34) nin0))
          have Z245 : n0 ≤ T245.heap.size := Nat.le_trans Z229 K245q.1
          have F257 : own_Ar Z T245.heap pa kp .int [(.int (-1 : Int32)), (.int (-1 : Int32)), (.int (-1 : Int32))] := F253
          exact own_tail l Z a0 hw mk xi yi d0 d1 d2 h0 n0 p e s m _ below meth c _ _ _ (a) (da) (ha) (pa) (oa) (cA1) (kh) (kp) (ko) ((.int (0 : Int32))) ((.int (2 : Int32))) ((.int (0 : Int32))) ((1 : Int64)) ((0 : Int64)) ((2 : Int64)) ((2 : Int64)) hx hby hml hZ hown hlk hret X245 rfl N245 Z245 F246 F247 F248 F249 F250 F251 F252 F254 F255 F257 F256 ge_a ge_ha ge_pa ge_oa (Ne.symm n10) n36 n38 n40 n35 n37 n39 pp32 pp33 pp34 (by decide)
    · -- not (mk &&& (2 : Int32)) = (0 : Int32)
      refine own_S (mkF m 51 #[iv mk, iv xi, iv yi, .val (.long d0), .second, .val (.long d1), .second, .val (.long d2), .second, rv da, rv a, .unset, .unset, .unset, .unset, .unset, .unset] []) (fun _ k => XS.ifNo X171.here hx rfl (hb hby at_48) rfl ((if0 _ _).trans (feq hm1).1) k) ?_
      refine own_S (mkF m 53 #[iv mk, iv xi, iv yi, .val (.long d0), .second, .val (.long d1), .second, .val (.long d2), .second, rv da, rv a, .unset, .unset, .unset, .unset, .unset, .unset] [(.ref a)]) (fun _ k => XS.aload X171.here hx rfl (hb hby at_51) rfl rfl k) ?_
      refine own_S (mkF m 54 #[iv mk, iv xi, iv yi, .val (.long d0), .second, .val (.long d1), .second, .val (.long d2), .second, rv da, rv a, .unset, .unset, .unset, .unset, .unset, .unset] [(.int 1), (.ref a)]) (fun _ k => XS.iconst X171.here hx rfl (hb hby at_53) k) ?_
      by_cases hB1 : (d1 < d0 ∨ (d1 = d0 ∧ (1 : Int64) < ((1 : Int64) + (1 : Int64))))
      ·
        obtain ⟨cq258, kq258, q258a, q258b, q258c⟩ := isOf hZ rfl F172
        obtain ⟨_, _, ⟨T258, L258, k258, n258⟩, -, X258, ⟨Lc258, hQ258, l258, y258, z258⟩, st258⟩ := X171.virtualBack hx (y := own_y6) (z := own_y6) hown (mvT hZ (own_g hw (i := 36) rfl)) (mvT hZ (own_g hw (i := 37) rfl)) (notFace_of_selects (args := #[]) (mvT hZ (own_g hw (i := 39) rfl))) (mvT hZ (own_g hw (i := 39) rfl)) (mvT hZ (own_g hw (i := 38) rfl)) (by decide) (backOf (W := 0) (own_rmof1m l Z a0 hw [] (a) (da) (ha) (pa) (oa) (cA1) (kh) (kp) (ko) ([(.long d0), (.long d1), (.long d2)]) ([(.int (0 : Int32)), (.int (0 : Int32)), (.int (0 : Int32))]) ([(.int (0 : Int32)), (.int (-1 : Int32)), (.int (-1 : Int32))]) ([(.long (1 : Int64)), (.long (0 : Int64)), (.long (0 : Int64))]) ((1 : Int32)) ((0 : Int32)) ((1 : Int64)) (d1) (d0) ((1 : Int64)) T171.heap n0 Z171 F172 F173 F174 F175 F176 F177 F186 F182 F183 F184 F185 ge_a ge_ha ge_pa ge_oa (Ne.symm n10) n36 n38 n40 n35 n37 n39 pp32 pp33 pp34 (by decide) (show (1 : Nat) < 3 from by decide) (show (1 : Nat) < 3 from by decide) rfl (show (1 : Nat) < 3 from by decide) rfl (by decide) (show (0 : Nat) < 3 from by decide) (by decide) rfl rfl rfl hB1) hZ (own_g hw (i := 40) rfl) (own_g hw (i := 3) rfl) (by decide) (by decide)) q258a q258c (g := (mkF m 54 #[iv mk, iv xi, iv yi, .val (.long d0), .second, .val (.long d1), .second, .val (.long d2), .second, rv da, rv a, .unset, .unset, .unset, .unset, .unset, .unset] [(.int 1), (.ref a)])) rfl (by rw [hml]; rfl) (Steps.refl _) (argsL := [(.int 1)]) (rest := []) (lenOf own_pd__I_V rfl) rfl (by show 2 * 0 + _ ≤ _; exact Nat.le_of_eq rfl) (hb hby at_54) (fun _ _ => ⟨rfl, rfl, (by decide : 5 + 0 ≤ _), (by decide : 18 + 0 ≤ _)⟩)
        dsimp only [Pt.U, Pt.locs, Pt.cells, Pt.slots] at X258 l258 y258 z258 st258 hQ258
        subst l258 y258 z258
        obtain ⟨rfl, N258q, K258q, F259, F260, F261, F262, F263, F264, F265, F266, F267, F268⟩ := hQ258
        have N258 := Fr.app N171 N258q
        refine own_S (mkF m 57 #[iv mk, iv xi, iv yi, .val (.long d0), .second, .val (.long d1), .second, .val (.long d2), .second, rv da, rv a, .unset, .unset, .unset, .unset, .unset, .unset] []) (fun _ k => st258.trans k) ?_
        have F269 := F182.keep K258q (ninS n10 (ninS n35 (ninS n37 (ninS n39 nin0))))
        have Z258 : n0 ≤ T258.heap.size := Nat.le_trans Z171 K258q.1
        have F270 : own_Ar Z T258.heap ha kh .int [(.int (1 : Int32)), (.int (0 : Int32)), (.int (0 : Int32))] := F266
        have F271 : own_Ar Z T258.heap pa kp .int [(.int (1 : Int32)), (.int (0 : Int32)), (.int (-1 : Int32))] := F267
        have F272 : own_Ar Z T258.heap oa ko .long [(.long (1 : Int64)), (.long (2 : Int64)), (.long (0 : Int64))] := F268
        have F273 : Fld Z T258.heap a "com/example/stickler/stickler/assignment/NodeQueue" "offers" "J" (.long (2 : Int64)) := F265
        refine own_S (mkF m 58 #[iv mk, iv xi, iv yi, .val (.long d0), .second, .val (.long d1), .second, .val (.long d2), .second, rv da, rv a, .unset, .unset, .unset, .unset, .unset, .unset] [(.int mk)]) (fun _ k => XS.iloadN X258.here hx rfl (hb hby at_57) rfl k) ?_
        refine own_S (mkF m 59 #[iv mk, iv xi, iv yi, .val (.long d0), .second, .val (.long d1), .second, .val (.long d2), .second, rv da, rv a, .unset, .unset, .unset, .unset, .unset, .unset] [(.int 4), (.int mk)]) (fun _ k => XS.iconst X258.here hx rfl (hb hby at_58) k) ?_
        refine own_S (mkF m 60 #[iv mk, iv xi, iv yi, .val (.long d0), .second, .val (.long d1), .second, .val (.long d2), .second, rv da, rv a, .unset, .unset, .unset, .unset, .unset, .unset] [(.int (mk &&& (4 : Int32)))]) (fun _ k => XS.iand X258.here hx rfl (hb hby at_59) rfl k) ?_
        by_cases hm2 : (mk &&& (4 : Int32)) = (0 : Int32)
        · -- (mk &&& (4 : Int32)) = (0 : Int32)
          refine own_S (mkF m 69 #[iv mk, iv xi, iv yi, .val (.long d0), .second, .val (.long d1), .second, .val (.long d2), .second, rv da, rv a, .unset, .unset, .unset, .unset, .unset, .unset] []) (fun _ k => XS.ifYes X258.here hx rfl (pc0 := 60) (pc' := 69) rfl (hb hby at_60) rfl ((if0 _ _).trans (teq hm2).1) (by decide) (by decide) k) ?_
          refine own_S (mkF m 71 #[iv mk, iv xi, iv yi, .val (.long d0), .second, .val (.long d1), .second, .val (.long d2), .second, rv da, rv a, .unset, .unset, .unset, .unset, .unset, .unset] [(.ref a)]) (fun _ k => XS.aload X258.here hx rfl (hb hby at_69) rfl rfl k) ?_
          obtain ⟨cq274, kq274, q274a, q274b, q274c⟩ := isOf hZ rfl F259
          obtain ⟨_, _, ⟨T274, L274, k274, n274⟩, -, X274, ⟨Lc274, hQ274, l274, y274, z274⟩, st274⟩ := X258.virtualBack hx (y := own_y7) (z := own_y7) hown (mvT hZ (own_g hw (i := 23) rfl)) (mvT hZ (own_g hw (i := 24) rfl)) (notFace_of_selects (args := #[]) (mvT hZ (own_g hw (i := 26) rfl))) (mvT hZ (own_g hw (i := 26) rfl)) (mvT hZ (own_g hw (i := 25) rfl)) (by decide) (backOf (W := 0) (own_rmcl2 l Z a0 hw [] (a) (da) (ha) (pa) (oa) (cA1) (kh) (kp) (ko) ([(.long d0), (.long d1), (.long d2)]) ([(.int (1 : Int32)), (.int (0 : Int32)), (.int (0 : Int32))]) ([(.int (1 : Int32)), (.int (0 : Int32)), (.int (-1 : Int32))]) ([(.long (1 : Int64)), (.long (2 : Int64)), (.long (0 : Int64))]) ((2 : Int64)) ((1 : Int32)) ((0 : Int32)) T258.heap n0 Z258 F259 F260 F261 F262 F263 F264 F273 F269 F270 F271 F272 ge_a ge_pa (Ne.symm n10) n36 n38 n40 n35 n37 n39 pp32 pp33 pp34 rfl (by decide) (show (1 : Nat) < 3 from by decide) rfl (by decide) (show (0 : Nat) < 3 from by decide)) hZ (own_g hw (i := 27) rfl) (own_g hw (i := 3) rfl) (by decide) (by decide)) q274a q274c (g := (mkF m 71 #[iv mk, iv xi, iv yi, .val (.long d0), .second, .val (.long d1), .second, .val (.long d2), .second, rv da, rv a, .unset, .unset, .unset, .unset, .unset, .unset] [(.ref a)])) rfl (by rw [hml]; rfl) (Steps.refl _) (argsL := []) (rest := []) (lenOf own_pd___V rfl) rfl (by show 2 * 0 + _ ≤ _; exact Nat.le_of_eq rfl) (hb hby at_71) (fun _ _ => ⟨rfl, rfl, (by decide : 5 + 0 ≤ _), (by decide : 18 + 0 ≤ _)⟩)
          dsimp only [Pt.U, Pt.locs, Pt.cells, Pt.slots] at X274 l274 y274 z274 st274 hQ274
          subst l274 y274 z274
          obtain ⟨rfl, N274q, K274q, F275, F276, F277, F278, F279, F280, F281, F282⟩ := hQ274
          have N274 := Fr.app N258 N274q
          refine own_S (mkF m 74 #[iv mk, iv xi, iv yi, .val (.long d0), .second, .val (.long d1), .second, .val (.long d2), .second, rv da, rv a, .unset, .unset, .unset, .unset, .unset, .unset] []) (fun _ k => st274.trans k) ?_
          have F283 := F269.keep K274q (ninS n10 (ninS n37 nin0))
          have F284 := F270.keep K274q (ninS (Ne.symm n36) (ninS pp32 nin0))
          have F285 := F272.keep K274q (ninS (Ne.symm n40) (ninS (Ne.symm pp34) nin0))
          have Z274 : n0 ≤ T274.heap.size := Nat.le_trans Z258 K274q.1
          have F286 : own_Ar Z T274.heap pa kp .int [(.int (-1 : Int32)), (.int (-1 : Int32)), (.int (-1 : Int32))] := F282
          exact own_tail l Z a0 hw mk xi yi d0 d1 d2 h0 n0 p e s m _ below meth c _ _ _ (a) (da) (ha) (pa) (oa) (cA1) (kh) (kp) (ko) ((.int (1 : Int32))) ((.int (0 : Int32))) ((.int (0 : Int32))) ((1 : Int64)) ((2 : Int64)) ((0 : Int64)) ((2 : Int64)) hx hby hml hZ hown hlk hret X274 rfl N274 Z274 F275 F276 F277 F278 F279 F280 F281 F283 F284 F286 F285 ge_a ge_ha ge_pa ge_oa (Ne.symm n10) n36 n38 n40 n35 n37 n39 pp32 pp33 pp34 (by decide)
        · -- not (mk &&& (4 : Int32)) = (0 : Int32)
          refine own_S (mkF m 63 #[iv mk, iv xi, iv yi, .val (.long d0), .second, .val (.long d1), .second, .val (.long d2), .second, rv da, rv a, .unset, .unset, .unset, .unset, .unset, .unset] []) (fun _ k => XS.ifNo X258.here hx rfl (hb hby at_60) rfl ((if0 _ _).trans (feq hm2).1) k) ?_
          refine own_S (mkF m 65 #[iv mk, iv xi, iv yi, .val (.long d0), .second, .val (.long d1), .second, .val (.long d2), .second, rv da, rv a, .unset, .unset, .unset, .unset, .unset, .unset] [(.ref a)]) (fun _ k => XS.aload X258.here hx rfl (hb hby at_63) rfl rfl k) ?_
          refine own_S (mkF m 66 #[iv mk, iv xi, iv yi, .val (.long d0), .second, .val (.long d1), .second, .val (.long d2), .second, rv da, rv a, .unset, .unset, .unset, .unset, .unset, .unset] [(.int 2), (.ref a)]) (fun _ k => XS.iconst X258.here hx rfl (hb hby at_65) k) ?_
          by_cases hB2 : (d2 < d1 ∨ (d2 = d1 ∧ (2 : Int64) < ((2 : Int64) + (1 : Int64))))
          ·
            obtain ⟨cq287, kq287, q287a, q287b, q287c⟩ := isOf hZ rfl F259
            obtain ⟨_, _, ⟨T287, L287, k287, n287⟩, -, X287, ⟨Lc287, hQ287, l287, y287, z287⟩, st287⟩ := X258.virtualBack hx (y := own_y6) (z := own_y6) hown (mvT hZ (own_g hw (i := 36) rfl)) (mvT hZ (own_g hw (i := 37) rfl)) (notFace_of_selects (args := #[]) (mvT hZ (own_g hw (i := 39) rfl))) (mvT hZ (own_g hw (i := 39) rfl)) (mvT hZ (own_g hw (i := 38) rfl)) (by decide) (backOf (W := 0) (own_rmof2m l Z a0 hw [] (a) (da) (ha) (pa) (oa) (cA1) (kh) (kp) (ko) ([(.long d0), (.long d1), (.long d2)]) ([(.int (1 : Int32)), (.int (0 : Int32)), (.int (0 : Int32))]) ([(.int (1 : Int32)), (.int (0 : Int32)), (.int (-1 : Int32))]) ([(.long (1 : Int64)), (.long (2 : Int64)), (.long (0 : Int64))]) ((2 : Int32)) ((1 : Int32)) ((2 : Int64)) (d2) (d1) ((2 : Int64)) T258.heap n0 Z258 F259 F260 F261 F262 F263 F264 F273 F269 F270 F271 F272 ge_a ge_ha ge_pa ge_oa (Ne.symm n10) n36 n38 n40 n35 n37 n39 pp32 pp33 pp34 (by decide) (show (2 : Nat) < 3 from by decide) (show (2 : Nat) < 3 from by decide) rfl (show (2 : Nat) < 3 from by decide) rfl (by decide) (show (1 : Nat) < 3 from by decide) (by decide) rfl rfl rfl hB2) hZ (own_g hw (i := 40) rfl) (own_g hw (i := 3) rfl) (by decide) (by decide)) q287a q287c (g := (mkF m 66 #[iv mk, iv xi, iv yi, .val (.long d0), .second, .val (.long d1), .second, .val (.long d2), .second, rv da, rv a, .unset, .unset, .unset, .unset, .unset, .unset] [(.int 2), (.ref a)])) rfl (by rw [hml]; rfl) (Steps.refl _) (argsL := [(.int 2)]) (rest := []) (lenOf own_pd__I_V rfl) rfl (by show 2 * 0 + _ ≤ _; exact Nat.le_of_eq rfl) (hb hby at_66) (fun _ _ => ⟨rfl, rfl, (by decide : 5 + 0 ≤ _), (by decide : 18 + 0 ≤ _)⟩)
            dsimp only [Pt.U, Pt.locs, Pt.cells, Pt.slots] at X287 l287 y287 z287 st287 hQ287
            subst l287 y287 z287
            obtain ⟨rfl, N287q, K287q, F288, F289, F290, F291, F292, F293, F294, F295, F296, F297⟩ := hQ287
            have N287 := Fr.app N258 N287q
            refine own_S (mkF m 69 #[iv mk, iv xi, iv yi, .val (.long d0), .second, .val (.long d1), .second, .val (.long d2), .second, rv da, rv a, .unset, .unset, .unset, .unset, .unset, .unset] []) (fun _ k => st287.trans k) ?_
            have F298 := F269.keep K287q (ninS n10 (ninS n35 (ninS n37 (ninS n39 nin0))))
            have Z287 : n0 ≤ T287.heap.size := Nat.le_trans Z258 K287q.1
            have F299 : own_Ar Z T287.heap ha kh .int [(.int (2 : Int32)), (.int (0 : Int32)), (.int (1 : Int32))] := F295
            have F300 : own_Ar Z T287.heap pa kp .int [(.int (1 : Int32)), (.int (2 : Int32)), (.int (0 : Int32))] := F296
            have F301 : own_Ar Z T287.heap oa ko .long [(.long (1 : Int64)), (.long (2 : Int64)), (.long (3 : Int64))] := F297
            have F302 : Fld Z T287.heap a "com/example/stickler/stickler/assignment/NodeQueue" "offers" "J" (.long (3 : Int64)) := F294
            refine own_S (mkF m 71 #[iv mk, iv xi, iv yi, .val (.long d0), .second, .val (.long d1), .second, .val (.long d2), .second, rv da, rv a, .unset, .unset, .unset, .unset, .unset, .unset] [(.ref a)]) (fun _ k => XS.aload X287.here hx rfl (hb hby at_69) rfl rfl k) ?_
            obtain ⟨cq303, kq303, q303a, q303b, q303c⟩ := isOf hZ rfl F288
            obtain ⟨_, _, ⟨T303, L303, k303, n303⟩, -, X303, ⟨Lc303, hQ303, l303, y303, z303⟩, st303⟩ := X287.virtualBack hx (y := own_y7) (z := own_y7) hown (mvT hZ (own_g hw (i := 23) rfl)) (mvT hZ (own_g hw (i := 24) rfl)) (notFace_of_selects (args := #[]) (mvT hZ (own_g hw (i := 26) rfl))) (mvT hZ (own_g hw (i := 26) rfl)) (mvT hZ (own_g hw (i := 25) rfl)) (by decide) (backOf (W := 0) (own_rmcl3 l Z a0 hw [] (a) (da) (ha) (pa) (oa) (cA1) (kh) (kp) (ko) ([(.long d0), (.long d1), (.long d2)]) ([(.int (2 : Int32)), (.int (0 : Int32)), (.int (1 : Int32))]) ([(.int (1 : Int32)), (.int (2 : Int32)), (.int (0 : Int32))]) ([(.long (1 : Int64)), (.long (2 : Int64)), (.long (3 : Int64))]) ((3 : Int64)) ((2 : Int32)) ((0 : Int32)) ((1 : Int32)) T287.heap n0 Z287 F288 F289 F290 F291 F292 F293 F302 F298 F299 F300 F301 ge_a ge_pa (Ne.symm n10) n36 n38 n40 n35 n37 n39 pp32 pp33 pp34 rfl (by decide) (show (2 : Nat) < 3 from by decide) rfl (by decide) (show (0 : Nat) < 3 from by decide) rfl (by decide) (show (1 : Nat) < 3 from by decide)) hZ (own_g hw (i := 27) rfl) (own_g hw (i := 3) rfl) (by decide) (by decide)) q303a q303c (g := (mkF m 71 #[iv mk, iv xi, iv yi, .val (.long d0), .second, .val (.long d1), .second, .val (.long d2), .second, rv da, rv a, .unset, .unset, .unset, .unset, .unset, .unset] [(.ref a)])) rfl (by rw [hml]; rfl) (Steps.refl _) (argsL := []) (rest := []) (lenOf own_pd___V rfl) rfl (by show 2 * 0 + _ ≤ _; exact Nat.le_of_eq rfl) (hb hby at_71) (fun _ _ => ⟨rfl, rfl, (by decide : 5 + 0 ≤ _), (by decide : 18 + 0 ≤ _)⟩)
            dsimp only [Pt.U, Pt.locs, Pt.cells, Pt.slots] at X303 l303 y303 z303 st303 hQ303
            subst l303 y303 z303
            obtain ⟨rfl, N303q, K303q, F304, F305, F306, F307, F308, F309, F310, F311⟩ := hQ303
            have N303 := Fr.app N287 N303q
            refine own_S (mkF m 74 #[iv mk, iv xi, iv yi, .val (.long d0), .second, .val (.long d1), .second, .val (.long d2), .second, rv da, rv a, .unset, .unset, .unset, .unset, .unset, .unset] []) (fun _ k => st303.trans k) ?_
            have F312 := F298.keep K303q (ninS n10 (ninS n37 nin0))
            have F313 := F299.keep K303q (ninS (Ne.symm n36) (ninS pp32 nin0))
            have F314 := F301.keep K303q (ninS (Ne.symm n40) (ninS (Ne.symm pp34) nin0))
            have Z303 : n0 ≤ T303.heap.size := Nat.le_trans Z287 K303q.1
            have F315 : own_Ar Z T303.heap pa kp .int [(.int (-1 : Int32)), (.int (-1 : Int32)), (.int (-1 : Int32))] := F311
            exact own_tail l Z a0 hw mk xi yi d0 d1 d2 h0 n0 p e s m _ below meth c _ _ _ (a) (da) (ha) (pa) (oa) (cA1) (kh) (kp) (ko) ((.int (2 : Int32))) ((.int (0 : Int32))) ((.int (1 : Int32))) ((1 : Int64)) ((2 : Int64)) ((3 : Int64)) ((3 : Int64)) hx hby hml hZ hown hlk hret X303 rfl N303 Z303 F304 F305 F306 F307 F308 F309 F310 F312 F313 F315 F314 ge_a ge_ha ge_pa ge_oa (Ne.symm n10) n36 n38 n40 n35 n37 n39 pp32 pp33 pp34 (by decide)
          ·
            obtain ⟨cq316, kq316, q316a, q316b, q316c⟩ := isOf hZ rfl F259
            obtain ⟨_, _, ⟨T316, L316, k316, n316⟩, -, X316, ⟨Lc316, hQ316, l316, y316, z316⟩, st316⟩ := X258.virtualBack hx (y := own_y6) (z := own_y6) hown (mvT hZ (own_g hw (i := 36) rfl)) (mvT hZ (own_g hw (i := 37) rfl)) (notFace_of_selects (args := #[]) (mvT hZ (own_g hw (i := 39) rfl))) (mvT hZ (own_g hw (i := 39) rfl)) (mvT hZ (own_g hw (i := 38) rfl)) (by decide) (backOf (W := 0) (own_rmof2n l Z a0 hw [] (a) (da) (ha) (pa) (oa) (cA1) (kh) (kp) (ko) ([(.long d0), (.long d1), (.long d2)]) ([(.int (1 : Int32)), (.int (0 : Int32)), (.int (0 : Int32))]) ([(.int (1 : Int32)), (.int (0 : Int32)), (.int (-1 : Int32))]) ([(.long (1 : Int64)), (.long (2 : Int64)), (.long (0 : Int64))]) ((2 : Int32)) ((1 : Int32)) ((2 : Int64)) (d2) (d1) ((2 : Int64)) T258.heap n0 Z258 F259 F260 F261 F262 F263 F264 F273 F269 F270 F271 F272 ge_a ge_ha ge_pa ge_oa (Ne.symm n10) n36 n38 n40 n35 n37 n39 pp32 pp33 pp34 (by decide) (show (2 : Nat) < 3 from by decide) (show (2 : Nat) < 3 from by decide) rfl (show (2 : Nat) < 3 from by decide) rfl (by decide) (show (1 : Nat) < 3 from by decide) (by decide) rfl rfl rfl hB2) hZ (own_g hw (i := 40) rfl) (own_g hw (i := 3) rfl) (by decide) (by decide)) q316a q316c (g := (mkF m 66 #[iv mk, iv xi, iv yi, .val (.long d0), .second, .val (.long d1), .second, .val (.long d2), .second, rv da, rv a, .unset, .unset, .unset, .unset, .unset, .unset] [(.int 2), (.ref a)])) rfl (by rw [hml]; rfl) (Steps.refl _) (argsL := [(.int 2)]) (rest := []) (lenOf own_pd__I_V rfl) rfl (by show 2 * 0 + _ ≤ _; exact Nat.le_of_eq rfl) (hb hby at_66) (fun _ _ => ⟨rfl, rfl, (by decide : 5 + 0 ≤ _), (by decide : 18 + 0 ≤ _)⟩)
            dsimp only [Pt.U, Pt.locs, Pt.cells, Pt.slots] at X316 l316 y316 z316 st316 hQ316
            subst l316 y316 z316
            obtain ⟨rfl, N316q, K316q, F317, F318, F319, F320, F321, F322, F323, F324, F325, F326⟩ := hQ316
            have N316 := Fr.app N258 N316q
            refine own_S (mkF m 69 #[iv mk, iv xi, iv yi, .val (.long d0), .second, .val (.long d1), .second, .val (.long d2), .second, rv da, rv a, .unset, .unset, .unset, .unset, .unset, .unset] []) (fun _ k => st316.trans k) ?_
            have F327 := F269.keep K316q (ninS n10 (ninS n35 (ninS n37 (ninS n39 nin0))))
            have Z316 : n0 ≤ T316.heap.size := Nat.le_trans Z258 K316q.1
            have F328 : own_Ar Z T316.heap ha kh .int [(.int (1 : Int32)), (.int (0 : Int32)), (.int (2 : Int32))] := F324
            have F329 : own_Ar Z T316.heap pa kp .int [(.int (1 : Int32)), (.int (0 : Int32)), (.int (2 : Int32))] := F325
            have F330 : own_Ar Z T316.heap oa ko .long [(.long (1 : Int64)), (.long (2 : Int64)), (.long (3 : Int64))] := F326
            have F331 : Fld Z T316.heap a "com/example/stickler/stickler/assignment/NodeQueue" "offers" "J" (.long (3 : Int64)) := F323
            refine own_S (mkF m 71 #[iv mk, iv xi, iv yi, .val (.long d0), .second, .val (.long d1), .second, .val (.long d2), .second, rv da, rv a, .unset, .unset, .unset, .unset, .unset, .unset] [(.ref a)]) (fun _ k => XS.aload X316.here hx rfl (hb hby at_69) rfl rfl k) ?_
            obtain ⟨cq332, kq332, q332a, q332b, q332c⟩ := isOf hZ rfl F317
            obtain ⟨_, _, ⟨T332, L332, k332, n332⟩, -, X332, ⟨Lc332, hQ332, l332, y332, z332⟩, st332⟩ := X316.virtualBack hx (y := own_y7) (z := own_y7) hown (mvT hZ (own_g hw (i := 23) rfl)) (mvT hZ (own_g hw (i := 24) rfl)) (notFace_of_selects (args := #[]) (mvT hZ (own_g hw (i := 26) rfl))) (mvT hZ (own_g hw (i := 26) rfl)) (mvT hZ (own_g hw (i := 25) rfl)) (by decide) (backOf (W := 0) (own_rmcl3 l Z a0 hw [] (a) (da) (ha) (pa) (oa) (cA1) (kh) (kp) (ko) ([(.long d0), (.long d1), (.long d2)]) ([(.int (1 : Int32)), (.int (0 : Int32)), (.int (2 : Int32))]) ([(.int (1 : Int32)), (.int (0 : Int32)), (.int (2 : Int32))]) ([(.long (1 : Int64)), (.long (2 : Int64)), (.long (3 : Int64))]) ((3 : Int64)) ((1 : Int32)) ((0 : Int32)) ((2 : Int32)) T316.heap n0 Z316 F317 F318 F319 F320 F321 F322 F331 F327 F328 F329 F330 ge_a ge_pa (Ne.symm n10) n36 n38 n40 n35 n37 n39 pp32 pp33 pp34 rfl (by decide) (show (1 : Nat) < 3 from by decide) rfl (by decide) (show (0 : Nat) < 3 from by decide) rfl (by decide) (show (2 : Nat) < 3 from by decide)) hZ (own_g hw (i := 27) rfl) (own_g hw (i := 3) rfl) (by decide) (by decide)) q332a q332c (g := (mkF m 71 #[iv mk, iv xi, iv yi, .val (.long d0), .second, .val (.long d1), .second, .val (.long d2), .second, rv da, rv a, .unset, .unset, .unset, .unset, .unset, .unset] [(.ref a)])) rfl (by rw [hml]; rfl) (Steps.refl _) (argsL := []) (rest := []) (lenOf own_pd___V rfl) rfl (by show 2 * 0 + _ ≤ _; exact Nat.le_of_eq rfl) (hb hby at_71) (fun _ _ => ⟨rfl, rfl, (by decide : 5 + 0 ≤ _), (by decide : 18 + 0 ≤ _)⟩)
            dsimp only [Pt.U, Pt.locs, Pt.cells, Pt.slots] at X332 l332 y332 z332 st332 hQ332
            subst l332 y332 z332
            obtain ⟨rfl, N332q, K332q, F333, F334, F335, F336, F337, F338, F339, F340⟩ := hQ332
            have N332 := Fr.app N316 N332q
            refine own_S (mkF m 74 #[iv mk, iv xi, iv yi, .val (.long d0), .second, .val (.long d1), .second, .val (.long d2), .second, rv da, rv a, .unset, .unset, .unset, .unset, .unset, .unset] []) (fun _ k => st332.trans k) ?_
            have F341 := F327.keep K332q (ninS n10 (ninS n37 nin0))
            have F342 := F328.keep K332q (ninS (Ne.symm n36) (ninS pp32 nin0))
            have F343 := F330.keep K332q (ninS (Ne.symm n40) (ninS (Ne.symm pp34) nin0))
            have Z332 : n0 ≤ T332.heap.size := Nat.le_trans Z316 K332q.1
            have F344 : own_Ar Z T332.heap pa kp .int [(.int (-1 : Int32)), (.int (-1 : Int32)), (.int (-1 : Int32))] := F340
            exact own_tail l Z a0 hw mk xi yi d0 d1 d2 h0 n0 p e s m _ below meth c _ _ _ (a) (da) (ha) (pa) (oa) (cA1) (kh) (kp) (ko) ((.int (1 : Int32))) ((.int (0 : Int32))) ((.int (2 : Int32))) ((1 : Int64)) ((2 : Int64)) ((3 : Int64)) ((3 : Int64)) hx hby hml hZ hown hlk hret X332 rfl N332 Z332 F333 F334 F335 F336 F337 F338 F339 F341 F342 F344 F343 ge_a ge_ha ge_pa ge_oa (Ne.symm n10) n36 n38 n40 n35 n37 n39 pp32 pp33 pp34 (by decide)
      ·
        obtain ⟨cq345, kq345, q345a, q345b, q345c⟩ := isOf hZ rfl F172
        obtain ⟨_, _, ⟨T345, L345, k345, n345⟩, -, X345, ⟨Lc345, hQ345, l345, y345, z345⟩, st345⟩ := X171.virtualBack hx (y := own_y6) (z := own_y6) hown (mvT hZ (own_g hw (i := 36) rfl)) (mvT hZ (own_g hw (i := 37) rfl)) (notFace_of_selects (args := #[]) (mvT hZ (own_g hw (i := 39) rfl))) (mvT hZ (own_g hw (i := 39) rfl)) (mvT hZ (own_g hw (i := 38) rfl)) (by decide) (backOf (W := 0) (own_rmof1n l Z a0 hw [] (a) (da) (ha) (pa) (oa) (cA1) (kh) (kp) (ko) ([(.long d0), (.long d1), (.long d2)]) ([(.int (0 : Int32)), (.int (0 : Int32)), (.int (0 : Int32))]) ([(.int (0 : Int32)), (.int (-1 : Int32)), (.int (-1 : Int32))]) ([(.long (1 : Int64)), (.long (0 : Int64)), (.long (0 : Int64))]) ((1 : Int32)) ((0 : Int32)) ((1 : Int64)) (d1) (d0) ((1 : Int64)) T171.heap n0 Z171 F172 F173 F174 F175 F176 F177 F186 F182 F183 F184 F185 ge_a ge_ha ge_pa ge_oa (Ne.symm n10) n36 n38 n40 n35 n37 n39 pp32 pp33 pp34 (by decide) (show (1 : Nat) < 3 from by decide) (show (1 : Nat) < 3 from by decide) rfl (show (1 : Nat) < 3 from by decide) rfl (by decide) (show (0 : Nat) < 3 from by decide) (by decide) rfl rfl rfl hB1) hZ (own_g hw (i := 40) rfl) (own_g hw (i := 3) rfl) (by decide) (by decide)) q345a q345c (g := (mkF m 54 #[iv mk, iv xi, iv yi, .val (.long d0), .second, .val (.long d1), .second, .val (.long d2), .second, rv da, rv a, .unset, .unset, .unset, .unset, .unset, .unset] [(.int 1), (.ref a)])) rfl (by rw [hml]; rfl) (Steps.refl _) (argsL := [(.int 1)]) (rest := []) (lenOf own_pd__I_V rfl) rfl (by show 2 * 0 + _ ≤ _; exact Nat.le_of_eq rfl) (hb hby at_54) (fun _ _ => ⟨rfl, rfl, (by decide : 5 + 0 ≤ _), (by decide : 18 + 0 ≤ _)⟩)
        dsimp only [Pt.U, Pt.locs, Pt.cells, Pt.slots] at X345 l345 y345 z345 st345 hQ345
        subst l345 y345 z345
        obtain ⟨rfl, N345q, K345q, F346, F347, F348, F349, F350, F351, F352, F353, F354, F355⟩ := hQ345
        have N345 := Fr.app N171 N345q
        refine own_S (mkF m 57 #[iv mk, iv xi, iv yi, .val (.long d0), .second, .val (.long d1), .second, .val (.long d2), .second, rv da, rv a, .unset, .unset, .unset, .unset, .unset, .unset] []) (fun _ k => st345.trans k) ?_
        have F356 := F182.keep K345q (ninS n10 (ninS n35 (ninS n37 (ninS n39 nin0))))
        have Z345 : n0 ≤ T345.heap.size := Nat.le_trans Z171 K345q.1
        have F357 : own_Ar Z T345.heap ha kh .int [(.int (0 : Int32)), (.int (1 : Int32)), (.int (0 : Int32))] := F353
        have F358 : own_Ar Z T345.heap pa kp .int [(.int (0 : Int32)), (.int (1 : Int32)), (.int (-1 : Int32))] := F354
        have F359 : own_Ar Z T345.heap oa ko .long [(.long (1 : Int64)), (.long (2 : Int64)), (.long (0 : Int64))] := F355
        have F360 : Fld Z T345.heap a "com/example/stickler/stickler/assignment/NodeQueue" "offers" "J" (.long (2 : Int64)) := F352
        refine own_S (mkF m 58 #[iv mk, iv xi, iv yi, .val (.long d0), .second, .val (.long d1), .second, .val (.long d2), .second, rv da, rv a, .unset, .unset, .unset, .unset, .unset, .unset] [(.int mk)]) (fun _ k => XS.iloadN X345.here hx rfl (hb hby at_57) rfl k) ?_
        refine own_S (mkF m 59 #[iv mk, iv xi, iv yi, .val (.long d0), .second, .val (.long d1), .second, .val (.long d2), .second, rv da, rv a, .unset, .unset, .unset, .unset, .unset, .unset] [(.int 4), (.int mk)]) (fun _ k => XS.iconst X345.here hx rfl (hb hby at_58) k) ?_
        refine own_S (mkF m 60 #[iv mk, iv xi, iv yi, .val (.long d0), .second, .val (.long d1), .second, .val (.long d2), .second, rv da, rv a, .unset, .unset, .unset, .unset, .unset, .unset] [(.int (mk &&& (4 : Int32)))]) (fun _ k => XS.iand X345.here hx rfl (hb hby at_59) rfl k) ?_
        by_cases hm2 : (mk &&& (4 : Int32)) = (0 : Int32)
        · -- (mk &&& (4 : Int32)) = (0 : Int32)
          refine own_S (mkF m 69 #[iv mk, iv xi, iv yi, .val (.long d0), .second, .val (.long d1), .second, .val (.long d2), .second, rv da, rv a, .unset, .unset, .unset, .unset, .unset, .unset] []) (fun _ k => XS.ifYes X345.here hx rfl (pc0 := 60) (pc' := 69) rfl (hb hby at_60) rfl ((if0 _ _).trans (teq hm2).1) (by decide) (by decide) k) ?_
          refine own_S (mkF m 71 #[iv mk, iv xi, iv yi, .val (.long d0), .second, .val (.long d1), .second, .val (.long d2), .second, rv da, rv a, .unset, .unset, .unset, .unset, .unset, .unset] [(.ref a)]) (fun _ k => XS.aload X345.here hx rfl (hb hby at_69) rfl rfl k) ?_
          obtain ⟨cq361, kq361, q361a, q361b, q361c⟩ := isOf hZ rfl F346
          obtain ⟨_, _, ⟨T361, L361, k361, n361⟩, -, X361, ⟨Lc361, hQ361, l361, y361, z361⟩, st361⟩ := X345.virtualBack hx (y := own_y7) (z := own_y7) hown (mvT hZ (own_g hw (i := 23) rfl)) (mvT hZ (own_g hw (i := 24) rfl)) (notFace_of_selects (args := #[]) (mvT hZ (own_g hw (i := 26) rfl))) (mvT hZ (own_g hw (i := 26) rfl)) (mvT hZ (own_g hw (i := 25) rfl)) (by decide) (backOf (W := 0) (own_rmcl2 l Z a0 hw [] (a) (da) (ha) (pa) (oa) (cA1) (kh) (kp) (ko) ([(.long d0), (.long d1), (.long d2)]) ([(.int (0 : Int32)), (.int (1 : Int32)), (.int (0 : Int32))]) ([(.int (0 : Int32)), (.int (1 : Int32)), (.int (-1 : Int32))]) ([(.long (1 : Int64)), (.long (2 : Int64)), (.long (0 : Int64))]) ((2 : Int64)) ((0 : Int32)) ((1 : Int32)) T345.heap n0 Z345 F346 F347 F348 F349 F350 F351 F360 F356 F357 F358 F359 ge_a ge_pa (Ne.symm n10) n36 n38 n40 n35 n37 n39 pp32 pp33 pp34 rfl (by decide) (show (0 : Nat) < 3 from by decide) rfl (by decide) (show (1 : Nat) < 3 from by decide)) hZ (own_g hw (i := 27) rfl) (own_g hw (i := 3) rfl) (by decide) (by decide)) q361a q361c (g := (mkF m 71 #[iv mk, iv xi, iv yi, .val (.long d0), .second, .val (.long d1), .second, .val (.long d2), .second, rv da, rv a, .unset, .unset, .unset, .unset, .unset, .unset] [(.ref a)])) rfl (by rw [hml]; rfl) (Steps.refl _) (argsL := []) (rest := []) (lenOf own_pd___V rfl) rfl (by show 2 * 0 + _ ≤ _; exact Nat.le_of_eq rfl) (hb hby at_71) (fun _ _ => ⟨rfl, rfl, (by decide : 5 + 0 ≤ _), (by decide : 18 + 0 ≤ _)⟩)
          dsimp only [Pt.U, Pt.locs, Pt.cells, Pt.slots] at X361 l361 y361 z361 st361 hQ361
          subst l361 y361 z361
          obtain ⟨rfl, N361q, K361q, F362, F363, F364, F365, F366, F367, F368, F369⟩ := hQ361
          have N361 := Fr.app N345 N361q
          refine own_S (mkF m 74 #[iv mk, iv xi, iv yi, .val (.long d0), .second, .val (.long d1), .second, .val (.long d2), .second, rv da, rv a, .unset, .unset, .unset, .unset, .unset, .unset] []) (fun _ k => st361.trans k) ?_
          have F370 := F356.keep K361q (ninS n10 (ninS n37 nin0))
          have F371 := F357.keep K361q (ninS (Ne.symm n36) (ninS pp32 nin0))
          have F372 := F359.keep K361q (ninS (Ne.symm n40) (ninS (Ne.symm pp34) nin0))
          have Z361 : n0 ≤ T361.heap.size := Nat.le_trans Z345 K361q.1
          have F373 : own_Ar Z T361.heap pa kp .int [(.int (-1 : Int32)), (.int (-1 : Int32)), (.int (-1 : Int32))] := F369
          exact own_tail l Z a0 hw mk xi yi d0 d1 d2 h0 n0 p e s m _ below meth c _ _ _ (a) (da) (ha) (pa) (oa) (cA1) (kh) (kp) (ko) ((.int (0 : Int32))) ((.int (1 : Int32))) ((.int (0 : Int32))) ((1 : Int64)) ((2 : Int64)) ((0 : Int64)) ((2 : Int64)) hx hby hml hZ hown hlk hret X361 rfl N361 Z361 F362 F363 F364 F365 F366 F367 F368 F370 F371 F373 F372 ge_a ge_ha ge_pa ge_oa (Ne.symm n10) n36 n38 n40 n35 n37 n39 pp32 pp33 pp34 (by decide)
        · -- not (mk &&& (4 : Int32)) = (0 : Int32)
          refine own_S (mkF m 63 #[iv mk, iv xi, iv yi, .val (.long d0), .second, .val (.long d1), .second, .val (.long d2), .second, rv da, rv a, .unset, .unset, .unset, .unset, .unset, .unset] []) (fun _ k => XS.ifNo X345.here hx rfl (hb hby at_60) rfl ((if0 _ _).trans (feq hm2).1) k) ?_
          refine own_S (mkF m 65 #[iv mk, iv xi, iv yi, .val (.long d0), .second, .val (.long d1), .second, .val (.long d2), .second, rv da, rv a, .unset, .unset, .unset, .unset, .unset, .unset] [(.ref a)]) (fun _ k => XS.aload X345.here hx rfl (hb hby at_63) rfl rfl k) ?_
          refine own_S (mkF m 66 #[iv mk, iv xi, iv yi, .val (.long d0), .second, .val (.long d1), .second, .val (.long d2), .second, rv da, rv a, .unset, .unset, .unset, .unset, .unset, .unset] [(.int 2), (.ref a)]) (fun _ k => XS.iconst X345.here hx rfl (hb hby at_65) k) ?_
          by_cases hB2 : (d2 < d0 ∨ (d2 = d0 ∧ (1 : Int64) < ((2 : Int64) + (1 : Int64))))
          ·
            obtain ⟨cq374, kq374, q374a, q374b, q374c⟩ := isOf hZ rfl F346
            obtain ⟨_, _, ⟨T374, L374, k374, n374⟩, -, X374, ⟨Lc374, hQ374, l374, y374, z374⟩, st374⟩ := X345.virtualBack hx (y := own_y6) (z := own_y6) hown (mvT hZ (own_g hw (i := 36) rfl)) (mvT hZ (own_g hw (i := 37) rfl)) (notFace_of_selects (args := #[]) (mvT hZ (own_g hw (i := 39) rfl))) (mvT hZ (own_g hw (i := 39) rfl)) (mvT hZ (own_g hw (i := 38) rfl)) (by decide) (backOf (W := 0) (own_rmof2m l Z a0 hw [] (a) (da) (ha) (pa) (oa) (cA1) (kh) (kp) (ko) ([(.long d0), (.long d1), (.long d2)]) ([(.int (0 : Int32)), (.int (1 : Int32)), (.int (0 : Int32))]) ([(.int (0 : Int32)), (.int (1 : Int32)), (.int (-1 : Int32))]) ([(.long (1 : Int64)), (.long (2 : Int64)), (.long (0 : Int64))]) ((2 : Int32)) ((0 : Int32)) ((2 : Int64)) (d2) (d0) ((1 : Int64)) T345.heap n0 Z345 F346 F347 F348 F349 F350 F351 F360 F356 F357 F358 F359 ge_a ge_ha ge_pa ge_oa (Ne.symm n10) n36 n38 n40 n35 n37 n39 pp32 pp33 pp34 (by decide) (show (2 : Nat) < 3 from by decide) (show (2 : Nat) < 3 from by decide) rfl (show (2 : Nat) < 3 from by decide) rfl (by decide) (show (0 : Nat) < 3 from by decide) (by decide) rfl rfl rfl hB2) hZ (own_g hw (i := 40) rfl) (own_g hw (i := 3) rfl) (by decide) (by decide)) q374a q374c (g := (mkF m 66 #[iv mk, iv xi, iv yi, .val (.long d0), .second, .val (.long d1), .second, .val (.long d2), .second, rv da, rv a, .unset, .unset, .unset, .unset, .unset, .unset] [(.int 2), (.ref a)])) rfl (by rw [hml]; rfl) (Steps.refl _) (argsL := [(.int 2)]) (rest := []) (lenOf own_pd__I_V rfl) rfl (by show 2 * 0 + _ ≤ _; exact Nat.le_of_eq rfl) (hb hby at_66) (fun _ _ => ⟨rfl, rfl, (by decide : 5 + 0 ≤ _), (by decide : 18 + 0 ≤ _)⟩)
            dsimp only [Pt.U, Pt.locs, Pt.cells, Pt.slots] at X374 l374 y374 z374 st374 hQ374
            subst l374 y374 z374
            obtain ⟨rfl, N374q, K374q, F375, F376, F377, F378, F379, F380, F381, F382, F383, F384⟩ := hQ374
            have N374 := Fr.app N345 N374q
            refine own_S (mkF m 69 #[iv mk, iv xi, iv yi, .val (.long d0), .second, .val (.long d1), .second, .val (.long d2), .second, rv da, rv a, .unset, .unset, .unset, .unset, .unset, .unset] []) (fun _ k => st374.trans k) ?_
            have F385 := F356.keep K374q (ninS n10 (ninS n35 (ninS n37 (ninS n39 nin0))))
            have Z374 : n0 ≤ T374.heap.size := Nat.le_trans Z345 K374q.1
            have F386 : own_Ar Z T374.heap ha kh .int [(.int (2 : Int32)), (.int (1 : Int32)), (.int (0 : Int32))] := F382
            have F387 : own_Ar Z T374.heap pa kp .int [(.int (2 : Int32)), (.int (1 : Int32)), (.int (0 : Int32))] := F383
            have F388 : own_Ar Z T374.heap oa ko .long [(.long (1 : Int64)), (.long (2 : Int64)), (.long (3 : Int64))] := F384
            have F389 : Fld Z T374.heap a "com/example/stickler/stickler/assignment/NodeQueue" "offers" "J" (.long (3 : Int64)) := F381
            refine own_S (mkF m 71 #[iv mk, iv xi, iv yi, .val (.long d0), .second, .val (.long d1), .second, .val (.long d2), .second, rv da, rv a, .unset, .unset, .unset, .unset, .unset, .unset] [(.ref a)]) (fun _ k => XS.aload X374.here hx rfl (hb hby at_69) rfl rfl k) ?_
            obtain ⟨cq390, kq390, q390a, q390b, q390c⟩ := isOf hZ rfl F375
            obtain ⟨_, _, ⟨T390, L390, k390, n390⟩, -, X390, ⟨Lc390, hQ390, l390, y390, z390⟩, st390⟩ := X374.virtualBack hx (y := own_y7) (z := own_y7) hown (mvT hZ (own_g hw (i := 23) rfl)) (mvT hZ (own_g hw (i := 24) rfl)) (notFace_of_selects (args := #[]) (mvT hZ (own_g hw (i := 26) rfl))) (mvT hZ (own_g hw (i := 26) rfl)) (mvT hZ (own_g hw (i := 25) rfl)) (by decide) (backOf (W := 0) (own_rmcl3 l Z a0 hw [] (a) (da) (ha) (pa) (oa) (cA1) (kh) (kp) (ko) ([(.long d0), (.long d1), (.long d2)]) ([(.int (2 : Int32)), (.int (1 : Int32)), (.int (0 : Int32))]) ([(.int (2 : Int32)), (.int (1 : Int32)), (.int (0 : Int32))]) ([(.long (1 : Int64)), (.long (2 : Int64)), (.long (3 : Int64))]) ((3 : Int64)) ((2 : Int32)) ((1 : Int32)) ((0 : Int32)) T374.heap n0 Z374 F375 F376 F377 F378 F379 F380 F389 F385 F386 F387 F388 ge_a ge_pa (Ne.symm n10) n36 n38 n40 n35 n37 n39 pp32 pp33 pp34 rfl (by decide) (show (2 : Nat) < 3 from by decide) rfl (by decide) (show (1 : Nat) < 3 from by decide) rfl (by decide) (show (0 : Nat) < 3 from by decide)) hZ (own_g hw (i := 27) rfl) (own_g hw (i := 3) rfl) (by decide) (by decide)) q390a q390c (g := (mkF m 71 #[iv mk, iv xi, iv yi, .val (.long d0), .second, .val (.long d1), .second, .val (.long d2), .second, rv da, rv a, .unset, .unset, .unset, .unset, .unset, .unset] [(.ref a)])) rfl (by rw [hml]; rfl) (Steps.refl _) (argsL := []) (rest := []) (lenOf own_pd___V rfl) rfl (by show 2 * 0 + _ ≤ _; exact Nat.le_of_eq rfl) (hb hby at_71) (fun _ _ => ⟨rfl, rfl, (by decide : 5 + 0 ≤ _), (by decide : 18 + 0 ≤ _)⟩)
            dsimp only [Pt.U, Pt.locs, Pt.cells, Pt.slots] at X390 l390 y390 z390 st390 hQ390
            subst l390 y390 z390
            obtain ⟨rfl, N390q, K390q, F391, F392, F393, F394, F395, F396, F397, F398⟩ := hQ390
            have N390 := Fr.app N374 N390q
            refine own_S (mkF m 74 #[iv mk, iv xi, iv yi, .val (.long d0), .second, .val (.long d1), .second, .val (.long d2), .second, rv da, rv a, .unset, .unset, .unset, .unset, .unset, .unset] []) (fun _ k => st390.trans k) ?_
            have F399 := F385.keep K390q (ninS n10 (ninS n37 nin0))
            have F400 := F386.keep K390q (ninS (Ne.symm n36) (ninS pp32 nin0))
            have F401 := F388.keep K390q (ninS (Ne.symm n40) (ninS (Ne.symm pp34) nin0))
            have Z390 : n0 ≤ T390.heap.size := Nat.le_trans Z374 K390q.1
            have F402 : own_Ar Z T390.heap pa kp .int [(.int (-1 : Int32)), (.int (-1 : Int32)), (.int (-1 : Int32))] := F398
            exact own_tail l Z a0 hw mk xi yi d0 d1 d2 h0 n0 p e s m _ below meth c _ _ _ (a) (da) (ha) (pa) (oa) (cA1) (kh) (kp) (ko) ((.int (2 : Int32))) ((.int (1 : Int32))) ((.int (0 : Int32))) ((1 : Int64)) ((2 : Int64)) ((3 : Int64)) ((3 : Int64)) hx hby hml hZ hown hlk hret X390 rfl N390 Z390 F391 F392 F393 F394 F395 F396 F397 F399 F400 F402 F401 ge_a ge_ha ge_pa ge_oa (Ne.symm n10) n36 n38 n40 n35 n37 n39 pp32 pp33 pp34 (by decide)
          ·
            obtain ⟨cq403, kq403, q403a, q403b, q403c⟩ := isOf hZ rfl F346
            obtain ⟨_, _, ⟨T403, L403, k403, n403⟩, -, X403, ⟨Lc403, hQ403, l403, y403, z403⟩, st403⟩ := X345.virtualBack hx (y := own_y6) (z := own_y6) hown (mvT hZ (own_g hw (i := 36) rfl)) (mvT hZ (own_g hw (i := 37) rfl)) (notFace_of_selects (args := #[]) (mvT hZ (own_g hw (i := 39) rfl))) (mvT hZ (own_g hw (i := 39) rfl)) (mvT hZ (own_g hw (i := 38) rfl)) (by decide) (backOf (W := 0) (own_rmof2n l Z a0 hw [] (a) (da) (ha) (pa) (oa) (cA1) (kh) (kp) (ko) ([(.long d0), (.long d1), (.long d2)]) ([(.int (0 : Int32)), (.int (1 : Int32)), (.int (0 : Int32))]) ([(.int (0 : Int32)), (.int (1 : Int32)), (.int (-1 : Int32))]) ([(.long (1 : Int64)), (.long (2 : Int64)), (.long (0 : Int64))]) ((2 : Int32)) ((0 : Int32)) ((2 : Int64)) (d2) (d0) ((1 : Int64)) T345.heap n0 Z345 F346 F347 F348 F349 F350 F351 F360 F356 F357 F358 F359 ge_a ge_ha ge_pa ge_oa (Ne.symm n10) n36 n38 n40 n35 n37 n39 pp32 pp33 pp34 (by decide) (show (2 : Nat) < 3 from by decide) (show (2 : Nat) < 3 from by decide) rfl (show (2 : Nat) < 3 from by decide) rfl (by decide) (show (0 : Nat) < 3 from by decide) (by decide) rfl rfl rfl hB2) hZ (own_g hw (i := 40) rfl) (own_g hw (i := 3) rfl) (by decide) (by decide)) q403a q403c (g := (mkF m 66 #[iv mk, iv xi, iv yi, .val (.long d0), .second, .val (.long d1), .second, .val (.long d2), .second, rv da, rv a, .unset, .unset, .unset, .unset, .unset, .unset] [(.int 2), (.ref a)])) rfl (by rw [hml]; rfl) (Steps.refl _) (argsL := [(.int 2)]) (rest := []) (lenOf own_pd__I_V rfl) rfl (by show 2 * 0 + _ ≤ _; exact Nat.le_of_eq rfl) (hb hby at_66) (fun _ _ => ⟨rfl, rfl, (by decide : 5 + 0 ≤ _), (by decide : 18 + 0 ≤ _)⟩)
            dsimp only [Pt.U, Pt.locs, Pt.cells, Pt.slots] at X403 l403 y403 z403 st403 hQ403
            subst l403 y403 z403
            obtain ⟨rfl, N403q, K403q, F404, F405, F406, F407, F408, F409, F410, F411, F412, F413⟩ := hQ403
            have N403 := Fr.app N345 N403q
            refine own_S (mkF m 69 #[iv mk, iv xi, iv yi, .val (.long d0), .second, .val (.long d1), .second, .val (.long d2), .second, rv da, rv a, .unset, .unset, .unset, .unset, .unset, .unset] []) (fun _ k => st403.trans k) ?_
            have F414 := F356.keep K403q (ninS n10 (ninS n35 (ninS n37 (ninS n39 nin0))))
            have Z403 : n0 ≤ T403.heap.size := Nat.le_trans Z345 K403q.1
            have F415 : own_Ar Z T403.heap ha kh .int [(.int (0 : Int32)), (.int (1 : Int32)), (.int (2 : Int32))] := F411
            have F416 : own_Ar Z T403.heap pa kp .int [(.int (0 : Int32)), (.int (1 : Int32)), (.int (2 : Int32))] := F412
            have F417 : own_Ar Z T403.heap oa ko .long [(.long (1 : Int64)), (.long (2 : Int64)), (.long (3 : Int64))] := F413
            have F418 : Fld Z T403.heap a "com/example/stickler/stickler/assignment/NodeQueue" "offers" "J" (.long (3 : Int64)) := F410
            refine own_S (mkF m 71 #[iv mk, iv xi, iv yi, .val (.long d0), .second, .val (.long d1), .second, .val (.long d2), .second, rv da, rv a, .unset, .unset, .unset, .unset, .unset, .unset] [(.ref a)]) (fun _ k => XS.aload X403.here hx rfl (hb hby at_69) rfl rfl k) ?_
            obtain ⟨cq419, kq419, q419a, q419b, q419c⟩ := isOf hZ rfl F404
            obtain ⟨_, _, ⟨T419, L419, k419, n419⟩, -, X419, ⟨Lc419, hQ419, l419, y419, z419⟩, st419⟩ := X403.virtualBack hx (y := own_y7) (z := own_y7) hown (mvT hZ (own_g hw (i := 23) rfl)) (mvT hZ (own_g hw (i := 24) rfl)) (notFace_of_selects (args := #[]) (mvT hZ (own_g hw (i := 26) rfl))) (mvT hZ (own_g hw (i := 26) rfl)) (mvT hZ (own_g hw (i := 25) rfl)) (by decide) (backOf (W := 0) (own_rmcl3 l Z a0 hw [] (a) (da) (ha) (pa) (oa) (cA1) (kh) (kp) (ko) ([(.long d0), (.long d1), (.long d2)]) ([(.int (0 : Int32)), (.int (1 : Int32)), (.int (2 : Int32))]) ([(.int (0 : Int32)), (.int (1 : Int32)), (.int (2 : Int32))]) ([(.long (1 : Int64)), (.long (2 : Int64)), (.long (3 : Int64))]) ((3 : Int64)) ((0 : Int32)) ((1 : Int32)) ((2 : Int32)) T403.heap n0 Z403 F404 F405 F406 F407 F408 F409 F418 F414 F415 F416 F417 ge_a ge_pa (Ne.symm n10) n36 n38 n40 n35 n37 n39 pp32 pp33 pp34 rfl (by decide) (show (0 : Nat) < 3 from by decide) rfl (by decide) (show (1 : Nat) < 3 from by decide) rfl (by decide) (show (2 : Nat) < 3 from by decide)) hZ (own_g hw (i := 27) rfl) (own_g hw (i := 3) rfl) (by decide) (by decide)) q419a q419c (g := (mkF m 71 #[iv mk, iv xi, iv yi, .val (.long d0), .second, .val (.long d1), .second, .val (.long d2), .second, rv da, rv a, .unset, .unset, .unset, .unset, .unset, .unset] [(.ref a)])) rfl (by rw [hml]; rfl) (Steps.refl _) (argsL := []) (rest := []) (lenOf own_pd___V rfl) rfl (by show 2 * 0 + _ ≤ _; exact Nat.le_of_eq rfl) (hb hby at_71) (fun _ _ => ⟨rfl, rfl, (by decide : 5 + 0 ≤ _), (by decide : 18 + 0 ≤ _)⟩)
            dsimp only [Pt.U, Pt.locs, Pt.cells, Pt.slots] at X419 l419 y419 z419 st419 hQ419
            subst l419 y419 z419
            obtain ⟨rfl, N419q, K419q, F420, F421, F422, F423, F424, F425, F426, F427⟩ := hQ419
            have N419 := Fr.app N403 N419q
            refine own_S (mkF m 74 #[iv mk, iv xi, iv yi, .val (.long d0), .second, .val (.long d1), .second, .val (.long d2), .second, rv da, rv a, .unset, .unset, .unset, .unset, .unset, .unset] []) (fun _ k => st419.trans k) ?_
            have F428 := F414.keep K419q (ninS n10 (ninS n37 nin0))
            have F429 := F415.keep K419q (ninS (Ne.symm n36) (ninS pp32 nin0))
            have F430 := F417.keep K419q (ninS (Ne.symm n40) (ninS (Ne.symm pp34) nin0))
            have Z419 : n0 ≤ T419.heap.size := Nat.le_trans Z403 K419q.1
            have F431 : own_Ar Z T419.heap pa kp .int [(.int (-1 : Int32)), (.int (-1 : Int32)), (.int (-1 : Int32))] := F427
            exact own_tail l Z a0 hw mk xi yi d0 d1 d2 h0 n0 p e s m _ below meth c _ _ _ (a) (da) (ha) (pa) (oa) (cA1) (kh) (kp) (ko) ((.int (0 : Int32))) ((.int (1 : Int32))) ((.int (2 : Int32))) ((1 : Int64)) ((2 : Int64)) ((3 : Int64)) ((3 : Int64)) hx hby hml hZ hown hlk hret X419 rfl N419 Z419 F420 F421 F422 F423 F424 F425 F426 F428 F429 F431 F430 ge_a ge_ha ge_pa ge_oa (Ne.symm n10) n36 n38 n40 n35 n37 n39 pp32 pp33 pp34 (by decide)
set_option maxRecDepth 65536 in
set_option maxHeartbeats 40000000 in
theorem comes_1 {Post : Tables → Env → Array Value → State → Outcome → State → Prop} (hpost : ∀ tb e args s v u, (limb_1_1.after args s (.returned v) u = true ∧ limb_1_2.after args s (.returned v) u = true ∧ True) → FrameEnd s (.returned v) u (Jvm.fieldLocs frame_1_writes args s ++ Jvm.arrayLocs frame_1_arrays args s ++ Jvm.staticLocs frame_1_statics s) 24 128 → Post tb e args s (.returned v) u) :
    ArmFor flags0 classFile x code maxLocals ret World_1 tables_1 room_1 Calls_1 rest_1 Pre_1 Post := by
  intro l hfl _ _ p e ha hc hk s m args below hf hA hF happ hP
  obtain ⟨hcalls, hrest, hpre⟩ := hP
  obtain ⟨-, -, -, hnamed, -, -, -, hat⟩ := (Spec.applies_iff hf).mp happ
  obtain ⟨hg, hn⟩ := and_e (Cond.before_iff.mp (show (Jvm.Cond.and given_1 narrow_1).before args s = true from hpre))
  obtain ⟨h1, g0⟩ := and_e hg
  obtain ⟨k0, g1⟩ := and_e g0
  obtain ⟨k1, g2⟩ := and_e g1
  obtain ⟨k2, g3⟩ := and_e g2
  obtain ⟨k3, g4⟩ := and_e g3
  obtain ⟨k4, g5⟩ := and_e g4
  have k5 := g5
  obtain ⟨w0, w1, w2, w3, w4, w5, rfl⟩ : ∃ w0 w1 w2 w3 w4 w5 : Value, args = #[w0, w1, w2, w3, w4, w5] := by
    have hs : args.size = 6 := by simpa [Cond.value, given_1] using h1
    obtain ⟨L⟩ := args
    match L, hs with
    | [w0, w1, w2, w3, w4, w5], _ => exact ⟨w0, w1, w2, w3, w4, w5, rfl⟩
  have hw := fun d (hd : d ∈ tables_1) => atoms_spec (ws := Jvm.Cond.code x code maxLocals ret :: tables_1) hat d (List.mem_cons_of_mem _ hd)
  have hfit : Fit s := fun {y c} hc i hi => by
    obtain ⟨ha, rfl⟩ := Array.getElem?_eq_some_iff.mp hc
    have q := List.all_eq_true.mp ((Array.all_eq_true_iff_forall_mem.mp hF) _ (Array.getElem_mem ha)) i (List.mem_range.mpr hi)
    simpa [Array.getElem?_eq_getElem hi] using q
  obtain ⟨i0, q0⟩ := is_v k0
  obtain rfl : w0 = (.int i0) := Option.some.inj q0
  obtain ⟨i1, q1⟩ := is_v k1
  obtain rfl : w1 = (.int i1) := Option.some.inj q1
  obtain ⟨i2, q2⟩ := is_v k2
  obtain rfl : w2 = (.int i2) := Option.some.inj q2
  obtain ⟨i3, q3⟩ := isL_v k3
  obtain rfl : w3 = (.long i3) := Option.some.inj q3
  obtain ⟨i4, q4⟩ := isL_v k4
  obtain rfl : w4 = (.long i4) := Option.some.inj q4
  obtain ⟨i5, q5⟩ := isL_v k5
  obtain rfl : w5 = (.long i5) := Option.some.inj q5
  obtain ⟨n, o, h1, h2, h3, _, L, rfl, ⟨rfl, N, -⟩, hq⟩ := own_rmlaw l s _ hw tables_1 i0 i1 i2 i3 i4 i5  s.heap s.heap.size (Nat.le_refl _)  p e ha hc hk s m _ below hf ((Spec.applies_iff_loose hf).mp happ).1 ⟨rfl, State.Warmed39.refl s, rfl⟩ trivial
  refine ⟨n, _, h1, h2, h3, hpost _ _ _ _ _ _ ⟨Cond.after_iff.mpr rfl, Cond.after_iff.mpr (eq_i res_at (Term.int_eval (1)) rfl), trivial⟩ ⟨hq.1, hq.2.1, (hq.2.2.sift fun y hy => Or.inr (N y hy)).mono (by decide) (by decide)⟩⟩
theorem main_1_1 : Claimed_1_1 := comes_1 fun _ _ _ _ _ _ h hF => ⟨h.1, hF⟩
theorem main_1_2 : Claimed_1_2 := comes_1 fun _ _ _ _ _ _ h hF => ⟨h.2.1, hF⟩
end Jvm.Pilot.@@N@@
namespace Jvm.Pilot.@@N@@
open Jvm Jvm.ClassFile Sem Op Lib Jvm.Free Jvm.Stand Jvm.Pilot.@@N@@.Jvm.D
/-! MADE BY PROGRAM (witnessworld.py) out of the Statement's table words and the real class files: 12 classes; the members and pool entries that the words name. The judged class is class 1, her method 1. -/
namespace start1
open Jvm.ClassFile
def u (s : String) : CpInfo := .utf8 (stringToUtf16 s)
/-- a pool by its gaps: so many unusable entries, then the entry; so many at the end -/
def gap : Nat → List CpInfo → List CpInfo
  | 0, r => r
  | n + 1, r => .unusable :: gap n r
def poolList (es : List (Nat × CpInfo)) (last : Nat) : List CpInfo := es.foldr (fun e r => gap e.1 (e.2 :: r)) (gap last [])
def pool (es : List (Nat × CpInfo)) (last : Nat) : Array CpInfo := ⟨poolList es last⟩
def fileOf (pool : Array CpInfo) (this : Nat) (attrs : Array Attribute := #[]) (ms : Array MethodInfo := #[]) (fl : Nat := 33) (sup : Nat := 0) (ifs : Array Nat := #[]) (fds : Array FieldInfo := #[]) : ClassFile where
  minorVersion := 0
  majorVersion := 65
  constantPool := pool
  accessFlags := fl
  thisClass := this
  superClass := sup
  interfaces := ifs
  fields := fds
  methods := ms
  attributes := attrs
def plain (name : String) (sup : Option ClassId) : Class where
  name := name
  kind := .ordinary
  loader := none
  accessFlags := 33
  super := sup
  interfaces := #[]
  cf := none
  fields := #[]
  methods := #[]
  instanceTypes := #[]
  staticTypes := #[]
  resolved := #[]
  callSites := []
  init := .initialized
  statics := none
  mirror := none

def pool0 : Array CpInfo := pool [(5, u "<init>"), (0, u "()V"), (1, .class_ 10), (1, u "java/lang/Object")] 113

def k0c0 : Code := { maxStack := 0, maxLocals := 1, code := object_method_1_code, exceptionTable := #[], attributes := #[] }
def k0m0 : Method := { name := "<init>", desc := "()V", sig := { parameters := [], returnType := none }, accessFlags := 1, code := some k0c0 }
/-- java/lang/Object -/
def k0 : Class := { plain "java/lang/Object" none with
  accessFlags := 33
  interfaces := #[]
  cf := some (fileOf pool0 8 #[] #[{ accessFlags := 1, nameIndex := 5, descriptorIndex := 6, attributes := #[] }] 33 0 #[] #[])
  fields := #[]
  methods := #[k0m0]
  instanceTypes := #[]
  staticTypes := #[]
  resolved := Array.replicate 124 none
  statics := none }

def pool1 : Array CpInfo := pool [(2, .class_ 4), (1, u "java/lang/Object"), (0, u "<init>"), (0, u "()V"), (0, .class_ 8), (0, u "com/example/stickler/stickler/assignment/NodeQueue"), (0, .methodref 7 10), (0, .nameAndType 5 11), (0, u "([J)V"), (0, .methodref 7 13), (0, .nameAndType 14 15), (0, u "offer"), (0, u "(I)V"), (0, .methodref 7 17), (0, .nameAndType 18 6), (0, u "clear"), (0, .methodref 7 20), (0, .nameAndType 21 22), (0, u "isEmpty"), (0, u "()Z"), (0, .integer 2147483647), (0, .methodref 7 25), (0, .nameAndType 26 27), (0, u "poll"), (0, u "()I"), (0, .class_ 29), (0, u "com/example/stickler/stickler/assignment/NodeQueueClearPinLaw"), (2, u "law"), (0, u "(IIIJJJ)Z")] 5

def k1m0 : Method := { name := "<init>", desc := "()V", sig := { parameters := [], returnType := none }, accessFlags := 1, code := none }
def k1c1 : Code := { maxStack := 4, maxLocals := 17, code := code, exceptionTable := #[], attributes := #[] }
def k1m1 : Method := { name := "law", desc := "(IIIJJJ)Z", sig := { parameters := [.int, .int, .int, .long, .long, .long], returnType := some .boolean }, accessFlags := 9, code := some k1c1 }
/-- com/example/stickler/stickler/assignment/NodeQueueClearPinLaw -/
def k1 : Class := { plain "com/example/stickler/stickler/assignment/NodeQueueClearPinLaw" (some 0) with
  accessFlags := 49
  interfaces := #[]
  cf := some (fileOf pool1 28 #[] #[{ accessFlags := 1, nameIndex := 5, descriptorIndex := 6, attributes := #[] }, { accessFlags := 9, nameIndex := 32, descriptorIndex := 33, attributes := #[] }] 49 2 #[] #[])
  fields := #[]
  methods := #[k1m0, k1m1]
  instanceTypes := #[]
  staticTypes := #[]
  resolved := Array.replicate 39 none
  statics := none }

def pool2 : Array CpInfo := pool [(1, .methodref 2 3), (0, .class_ 4), (0, .nameAndType 5 6), (0, u "java/lang/Object"), (0, u "<init>"), (0, u "()V"), (0, .fieldref 8 9), (0, .class_ 10), (0, .nameAndType 11 12), (0, u "com/example/stickler/stickler/assignment/NodeQueue"), (0, u "distance"), (0, u "[J"), (0, .fieldref 8 14), (0, .nameAndType 15 16), (0, u "heap"), (0, u "[I"), (0, .fieldref 8 18), (0, .nameAndType 19 16), (0, u "place"), (0, .fieldref 8 21), (0, .nameAndType 22 12), (0, u "offered"), (0, .methodref 24 25), (0, .class_ 26), (0, .nameAndType 27 28), (0, u "java/util/Arrays"), (0, u "fill"), (0, u "([II)V"), (0, .fieldref 8 30), (0, .nameAndType 31 32), (0, u "size"), (0, u "I"), (0, .fieldref 8 34), (0, .nameAndType 35 36), (0, u "offers"), (0, u "J"), (0, .methodref 8 38), (0, .nameAndType 39 40), (0, u "siftUp"), (0, u "(I)V"), (0, .methodref 8 42), (0, .nameAndType 43 44), (0, u "moveTo"), (0, u "(II)V"), (0, .methodref 8 46), (0, .nameAndType 47 40), (0, u "siftDown"), (0, .methodref 8 49), (0, .nameAndType 50 51), (0, u "before"), (0, u "(II)Z"), (0, u "([J)V"), (2, u "isEmpty"), (0, u "()Z"), (1, u "offer"), (2, u "()I"), (0, u "poll"), (0, u "clear")] 2

def k2c0 : Code := { maxStack := 2, maxLocals := 2, code := prog_8_method_1_code, exceptionTable := #[], attributes := #[] }
def k2m0 : Method := { name := "<init>", desc := "([J)V", sig := { parameters := [(.array .long)], returnType := none }, accessFlags := 0, code := some k2c0 }
def k2c1 : Code := { maxStack := 1, maxLocals := 1, code := prog_8_method_2_code, exceptionTable := #[], attributes := #[] }
def k2m1 : Method := { name := "isEmpty", desc := "()Z", sig := { parameters := [], returnType := some .boolean }, accessFlags := 0, code := some k2c1 }
def k2c2 : Code := { maxStack := 7, maxLocals := 2, code := prog_8_method_3_code, exceptionTable := #[], attributes := #[] }
def k2m2 : Method := { name := "offer", desc := "(I)V", sig := { parameters := [.int], returnType := none }, accessFlags := 0, code := some k2c2 }
def k2c3 : Code := { maxStack := 4, maxLocals := 2, code := prog_8_method_6_code, exceptionTable := #[], attributes := #[] }
def k2m3 : Method := { name := "poll", desc := "()I", sig := { parameters := [], returnType := some .int }, accessFlags := 0, code := some k2c3 }
def k2c4 : Code := { maxStack := 3, maxLocals := 2, code := prog_8_method_7_code, exceptionTable := #[], attributes := #[] }
def k2m4 : Method := { name := "clear", desc := "()V", sig := { parameters := [], returnType := none }, accessFlags := 0, code := some k2c4 }
def k2c5 : Code := { maxStack := 4, maxLocals := 3, code := prog_8_method_8_code, exceptionTable := #[], attributes := #[] }
def k2m5 : Method := { name := "before", desc := "(II)Z", sig := { parameters := [.int, .int], returnType := some .boolean }, accessFlags := 2, code := some k2c5 }
def k2c6 : Code := { maxStack := 5, maxLocals := 3, code := prog_8_method_9_code, exceptionTable := #[], attributes := #[] }
def k2m6 : Method := { name := "siftUp", desc := "(I)V", sig := { parameters := [.int], returnType := none }, accessFlags := 2, code := some k2c6 }
def k2c7 : Code := { maxStack := 4, maxLocals := 4, code := prog_8_method_10_code, exceptionTable := #[], attributes := #[] }
def k2m7 : Method := { name := "siftDown", desc := "(I)V", sig := { parameters := [.int], returnType := none }, accessFlags := 2, code := some k2c7 }
def k2c8 : Code := { maxStack := 3, maxLocals := 3, code := prog_8_method_11_code, exceptionTable := #[], attributes := #[] }
def k2m8 : Method := { name := "moveTo", desc := "(II)V", sig := { parameters := [.int, .int], returnType := none }, accessFlags := 2, code := some k2c8 }
/-- com/example/stickler/stickler/assignment/NodeQueue -/
def k2 : Class := { plain "com/example/stickler/stickler/assignment/NodeQueue" (some 0) with
  accessFlags := 32
  interfaces := #[]
  cf := some (fileOf pool2 8 #[] #[{ accessFlags := 0, nameIndex := 5, descriptorIndex := 52, attributes := #[] }, { accessFlags := 0, nameIndex := 55, descriptorIndex := 56, attributes := #[] }, { accessFlags := 0, nameIndex := 58, descriptorIndex := 40, attributes := #[] }, { accessFlags := 0, nameIndex := 62, descriptorIndex := 61, attributes := #[] }, { accessFlags := 0, nameIndex := 63, descriptorIndex := 6, attributes := #[] }, { accessFlags := 2, nameIndex := 50, descriptorIndex := 51, attributes := #[] }, { accessFlags := 2, nameIndex := 39, descriptorIndex := 40, attributes := #[] }, { accessFlags := 2, nameIndex := 47, descriptorIndex := 40, attributes := #[] }, { accessFlags := 2, nameIndex := 43, descriptorIndex := 44, attributes := #[] }] 32 2 #[] #[{ accessFlags := 18, nameIndex := 11, descriptorIndex := 12, attributes := #[] }, { accessFlags := 18, nameIndex := 15, descriptorIndex := 16, attributes := #[] }, { accessFlags := 18, nameIndex := 19, descriptorIndex := 16, attributes := #[] }, { accessFlags := 18, nameIndex := 22, descriptorIndex := 12, attributes := #[] }, { accessFlags := 2, nameIndex := 35, descriptorIndex := 36, attributes := #[] }, { accessFlags := 2, nameIndex := 31, descriptorIndex := 32, attributes := #[] }])
  fields := #[{ name := "distance", type := (.array .long), accessFlags := 18, slot := 0, constantValue := 0 }, { name := "heap", type := (.array .int), accessFlags := 18, slot := 1, constantValue := 0 }, { name := "place", type := (.array .int), accessFlags := 18, slot := 2, constantValue := 0 }, { name := "offered", type := (.array .long), accessFlags := 18, slot := 3, constantValue := 0 }, { name := "offers", type := .long, accessFlags := 2, slot := 4, constantValue := 0 }, { name := "size", type := .int, accessFlags := 2, slot := 5, constantValue := 0 }]
  methods := #[k2m0, k2m1, k2m2, k2m3, k2m4, k2m5, k2m6, k2m7, k2m8]
  instanceTypes := #[(.array .long), (.array .int), (.array .int), (.array .long), .long, .int]
  staticTypes := #[]
  resolved := Array.replicate 66 none
  statics := none }

def pool3 : Array CpInfo := pool [(2, .class_ 4), (1, u "java/lang/Object"), (0, u "<init>"), (0, u "()V"), (7, .class_ 16), (1, u "java/util/Arrays"), (57, .class_ 76), (1, u "java/util/Arrays$NaturalOrder"), (36, .class_ 115), (1, u "java/util/Arrays$LegacyMergeSort"), (1, u "Z"), (257, .class_ 376), (0, u "java/util/Arrays$ArrayList"), (68, u "$assertionsDisabled"), (269, u "MIN_ARRAY_SORT_GRAN"), (0, u "I"), (2, u "INSERTIONSORT_THRESHOLD"), (120, u "fill"), (4, u "([II)V"), (129, .class_ 976), (0, u "java/util/Arrays$ArrayItr")] 52

def k3m0 : Method := { name := "<init>", desc := "()V", sig := { parameters := [], returnType := none }, accessFlags := 2, code := none }
def k3c1 : Code := { maxStack := 3, maxLocals := 4, code := jdk_65_method_103_code, exceptionTable := #[], attributes := #[] }
def k3m1 : Method := { name := "fill", desc := "([II)V", sig := { parameters := [(.array .int), .int], returnType := none }, accessFlags := 9, code := some k3c1 }
/-- java/util/Arrays -/
def k3 : Class := { plain "java/util/Arrays" (some 0) with
  accessFlags := 49
  interfaces := #[]
  cf := some (fileOf pool3 14 #[.nestMembers #[975, 375, 113, 74]] #[{ accessFlags := 2, nameIndex := 5, descriptorIndex := 6, attributes := #[] }, { accessFlags := 9, nameIndex := 840, descriptorIndex := 845, attributes := #[] }] 49 2 #[] #[{ accessFlags := 26, nameIndex := 715, descriptorIndex := 716, attributes := #[] }, { accessFlags := 26, nameIndex := 719, descriptorIndex := 716, attributes := #[] }, { accessFlags := 4120, nameIndex := 445, descriptorIndex := 117, attributes := #[] }])
  fields := #[{ name := "MIN_ARRAY_SORT_GRAN", type := .int, accessFlags := 26, slot := 0, constantValue := 0 }, { name := "INSERTIONSORT_THRESHOLD", type := .int, accessFlags := 26, slot := 1, constantValue := 0 }, { name := "$assertionsDisabled", type := .boolean, accessFlags := 4120, slot := 2, constantValue := 0 }]
  methods := #[k3m0, k3m1]
  instanceTypes := #[]
  staticTypes := #[.int, .int, .boolean]
  resolved := Array.replicate 1029 none
  statics := none }

def pool4 : Array CpInfo := pool [(1, u "java/lang/Cloneable"), (0, .class_ 1), (0, u "java/lang/Object"), (0, .class_ 3)] 3

/-- java/lang/Cloneable -/
def k4 : Class := { plain "java/lang/Cloneable" (some 0) with
  accessFlags := 1537
  interfaces := #[]
  cf := some (fileOf pool4 2 #[] #[] 1537 4 #[] #[])
  fields := #[]
  methods := #[]
  instanceTypes := #[]
  staticTypes := #[]
  resolved := Array.replicate 8 none
  statics := none }

def pool5 : Array CpInfo := pool [(1, u "java/io/Serializable"), (0, .class_ 1), (0, u "java/lang/Object"), (0, .class_ 3)] 3

/-- java/io/Serializable -/
def k5 : Class := { plain "java/io/Serializable" (some 0) with
  accessFlags := 1537
  interfaces := #[]
  cf := some (fileOf pool5 2 #[] #[] 1537 4 #[] #[])
  fields := #[]
  methods := #[]
  instanceTypes := #[]
  staticTypes := #[]
  resolved := Array.replicate 8 none
  statics := none }

/-- the primitive byte -/
def k6 : Class := { plain "byte" none with kind := .primitive 'B', accessFlags := 0x411 }
/-- [B -/
def k7 : Class := { plain "[B" (some 0) with kind := .array 6 .byte, interfaces := #[4, 5], accessFlags := 1041 }

/-- the primitive int -/
def k8 : Class := { plain "int" none with kind := .primitive 'I', accessFlags := 0x411 }
/-- [I -/
def k9 : Class := { plain "[I" (some 0) with kind := .array 8 .int, interfaces := #[4, 5], accessFlags := 1041 }

/-- the primitive long -/
def k10 : Class := { plain "long" none with kind := .primitive 'J', accessFlags := 0x411 }
/-- [J -/
def k11 : Class := { plain "[J" (some 0) with kind := .array 10 .long, interfaces := #[4, 5], accessFlags := 1041 }

def heap : Heap := #[]
def classes : Array Class := #[k0, k1, k2, k3, k4, k5, k6, k7, k8, k9, k10, k11]
def interned : List (Array UInt16 × Addr) := []
def slotsUsed : Nat := 0
def theMethod : MethodId := ⟨1, 1⟩
def args0 : Array Value := #[.int 5, .int 3, .int 4, .long 1, .long 2, .long 3]
def aboutOver (below : List Frame) : State where
  vm := { classes := classes, interned := interned.toArray }
  heap := heap
  slotsUsed := slotsUsed
  threads := #[{ frames := .invoking theMethod args0 :: below }]
def below0 : List Frame := [.native { method := ⟨0, 0⟩, args := #[] }]
def about1 : State := aboutOver below0
def p0 : Program := .bare "" "" ""
def e0 : Env := launch0.env 0 0 0
theorem w_frames : about1.frames = Frame.invoking theMethod args0 :: below0 := rfl
set_option maxRecDepth 65536 in
theorem w_args : argsFit about1.vm theMethod args0 = true := by decide +kernel
set_option maxRecDepth 65536 in
theorem w_heap : heapFits about1 = true := by decide +kernel
set_option maxRecDepth 65536 in
theorem w_runnable : about1.curStatus? = some .runnable := by decide +kernel
set_option maxRecDepth 65536 in
theorem w_alone : about1.alone = true := by decide +kernel
set_option maxRecDepth 65536 in
theorem w_named : about1.methodNamed? x = some theMethod := by decide +kernel
set_option maxRecDepth 65536 in
theorem w_hears : about1.hears theMethod below0 = true := by decide +kernel
set_option maxRecDepth 65536 in
theorem w_ripe : about1.ripe theMethod args0 below0 = true := by decide +kernel
theorem w_running : about1.status = .running := rfl
set_option maxRecDepth 65536 in
theorem w_room : about1.hasRoom e0.platform room_1 = true :=
  launch0.hasRoom_least _ room_1 (by decide +kernel) (by decide +kernel) (by decide +kernel) (by decide +kernel) (by decide +kernel) (by decide +kernel)
theorem allAtoms_all (ts : List Jvm.Cond) (a : Array Jvm.Value) (st : Jvm.State) : (allAtoms ts).before a st = ts.all (fun c => c.before a st) := by
  induction ts with
  | nil => rfl
  | cons c t ih =>
    show (Jvm.Cond.and c (allAtoms t)).before a st = _
    rw [Jvm.Cond.before_and, ih, List.all_cons]
def words1 : List Jvm.Cond := Jvm.Cond.code x code maxLocals ret :: tables_1
/-- a 'code' word, met by the world's own term for the bytes: nothing is compared byte by byte -/
theorem code_word {y : MethodName} {bytes : ByteArray} {mx : Nat} {rt : Option FieldType} {a : Array Value} {s : State} {m : MethodId} {meth : Method} {c : Code} (h1 : s.methodNamed? y = some m) (h2 : s.vm.method? m = some meth) (h3 : meth.code = some c) (h4 : c.code = bytes)
    (h5 : (c.maxLocals == mx && c.exceptionTable.isEmpty && decide (c.maxStack ≤ mostOperands) && decide (meth.sig.returnType = rt) && !meth.locks && decide (parseMethodDescriptor y.desc = some meth.sig)) = true) : (Jvm.Cond.code y bytes mx rt).before a s = true := by
  simp only [Bool.and_eq_true, beq_iff_eq, Bool.not_eq_true', decide_eq_true_eq] at h5
  obtain ⟨⟨⟨⟨⟨g1, g2⟩, g3⟩, g4⟩, g5⟩, g6⟩ := h5
  simp [Cond.before, Cond.holds, Cond.value, h1, h2, h3, h4, g1, g2, g3, g4, g5, g6]
def isCode : Jvm.Cond → Bool
  | .code _ _ _ _ => true
  | _ => false
theorem all_split {L : List Jvm.Cond} {P : Jvm.Cond → Bool} (h1 : L.all (fun c => isCode c || P c) = true) (h2 : ∀ c ∈ L.filter isCode, P c = true) : L.all P = true := by
  refine List.all_eq_true.mpr fun c hc => ?_
  have h := List.all_eq_true.mp h1 c hc
  rcases Bool.eq_false_or_eq_true (isCode c) with hi | hi
  · exact h2 c (List.mem_filter.mpr ⟨hc, hi⟩)
  · simpa [hi] using h
set_option maxRecDepth 65536 in
theorem w_c0 : (Jvm.Cond.code x code maxLocals ret).before args0 about1 = true := code_word (m := ⟨1, 1⟩) (meth := k1m1) (c := k1c1) (by decide +kernel) rfl rfl rfl (by decide +kernel)
set_option maxRecDepth 65536 in
theorem w_c1 : (Jvm.Cond.code ({ cls := "com/example/stickler/stickler/assignment/NodeQueue", name := "<init>", desc := "([J)V" } : Jvm.MethodName) prog_8_method_1_code (2 : Nat) (Option.none : Option Jvm.ClassFile.FieldType)).before args0 about1 = true := code_word (m := ⟨2, 0⟩) (meth := k2m0) (c := k2c0) (by decide +kernel) rfl rfl rfl (by decide +kernel)
set_option maxRecDepth 65536 in
theorem w_c2 : (Jvm.Cond.code ({ cls := "java/lang/Object", name := "<init>", desc := "()V" } : Jvm.MethodName) object_method_1_code (1 : Nat) (Option.none : Option Jvm.ClassFile.FieldType)).before args0 about1 = true := code_word (m := ⟨0, 0⟩) (meth := k0m0) (c := k0c0) (by decide +kernel) rfl rfl rfl (by decide +kernel)
set_option maxRecDepth 65536 in
theorem w_c3 : (Jvm.Cond.code ({ cls := "java/util/Arrays", name := "fill", desc := "([II)V" } : Jvm.MethodName) jdk_65_method_103_code (4 : Nat) (Option.none : Option Jvm.ClassFile.FieldType)).before args0 about1 = true := code_word (m := ⟨3, 1⟩) (meth := k3m1) (c := k3c1) (by decide +kernel) rfl rfl rfl (by decide +kernel)
set_option maxRecDepth 65536 in
theorem w_c4 : (Jvm.Cond.code ({ cls := "com/example/stickler/stickler/assignment/NodeQueue", name := "clear", desc := "()V" } : Jvm.MethodName) prog_8_method_7_code (2 : Nat) (Option.none : Option Jvm.ClassFile.FieldType)).before args0 about1 = true := code_word (m := ⟨2, 4⟩) (meth := k2m4) (c := k2c4) (by decide +kernel) rfl rfl rfl (by decide +kernel)
set_option maxRecDepth 65536 in
theorem w_c5 : (Jvm.Cond.code ({ cls := "com/example/stickler/stickler/assignment/NodeQueue", name := "isEmpty", desc := "()Z" } : Jvm.MethodName) prog_8_method_2_code (1 : Nat) (Option.some Jvm.ClassFile.FieldType.boolean)).before args0 about1 = true := code_word (m := ⟨2, 1⟩) (meth := k2m1) (c := k2c1) (by decide +kernel) rfl rfl rfl (by decide +kernel)
set_option maxRecDepth 65536 in
theorem w_c6 : (Jvm.Cond.code ({ cls := "com/example/stickler/stickler/assignment/NodeQueue", name := "offer", desc := "(I)V" } : Jvm.MethodName) prog_8_method_3_code (2 : Nat) (Option.none : Option Jvm.ClassFile.FieldType)).before args0 about1 = true := code_word (m := ⟨2, 2⟩) (meth := k2m2) (c := k2c2) (by decide +kernel) rfl rfl rfl (by decide +kernel)
set_option maxRecDepth 65536 in
theorem w_c7 : (Jvm.Cond.code ({ cls := "com/example/stickler/stickler/assignment/NodeQueue", name := "siftUp", desc := "(I)V" } : Jvm.MethodName) prog_8_method_9_code (3 : Nat) (Option.none : Option Jvm.ClassFile.FieldType)).before args0 about1 = true := code_word (m := ⟨2, 6⟩) (meth := k2m6) (c := k2c6) (by decide +kernel) rfl rfl rfl (by decide +kernel)
set_option maxRecDepth 65536 in
theorem w_c8 : (Jvm.Cond.code ({ cls := "com/example/stickler/stickler/assignment/NodeQueue", name := "moveTo", desc := "(II)V" } : Jvm.MethodName) prog_8_method_11_code (3 : Nat) (Option.none : Option Jvm.ClassFile.FieldType)).before args0 about1 = true := code_word (m := ⟨2, 8⟩) (meth := k2m8) (c := k2c8) (by decide +kernel) rfl rfl rfl (by decide +kernel)
set_option maxRecDepth 65536 in
theorem w_c9 : (Jvm.Cond.code ({ cls := "com/example/stickler/stickler/assignment/NodeQueue", name := "before", desc := "(II)Z" } : Jvm.MethodName) prog_8_method_8_code (3 : Nat) (Option.some Jvm.ClassFile.FieldType.boolean)).before args0 about1 = true := code_word (m := ⟨2, 5⟩) (meth := k2m5) (c := k2c5) (by decide +kernel) rfl rfl rfl (by decide +kernel)
set_option maxRecDepth 65536 in
theorem w_c10 : (Jvm.Cond.code ({ cls := "com/example/stickler/stickler/assignment/NodeQueue", name := "poll", desc := "()I" } : Jvm.MethodName) prog_8_method_6_code (2 : Nat) (Option.some Jvm.ClassFile.FieldType.int)).before args0 about1 = true := code_word (m := ⟨2, 3⟩) (meth := k2m3) (c := k2c3) (by decide +kernel) rfl rfl rfl (by decide +kernel)
set_option maxRecDepth 65536 in
theorem w_c11 : (Jvm.Cond.code ({ cls := "com/example/stickler/stickler/assignment/NodeQueue", name := "siftDown", desc := "(I)V" } : Jvm.MethodName) prog_8_method_10_code (4 : Nat) (Option.none : Option Jvm.ClassFile.FieldType)).before args0 about1 = true := code_word (m := ⟨2, 7⟩) (meth := k2m7) (c := k2c7) (by decide +kernel) rfl rfl rfl (by decide +kernel)
def codes1 : List Jvm.Cond := [Jvm.Cond.code x code maxLocals ret, Jvm.Cond.code ({ cls := "com/example/stickler/stickler/assignment/NodeQueue", name := "<init>", desc := "([J)V" } : Jvm.MethodName) prog_8_method_1_code (2 : Nat) (Option.none : Option Jvm.ClassFile.FieldType), Jvm.Cond.code ({ cls := "java/lang/Object", name := "<init>", desc := "()V" } : Jvm.MethodName) object_method_1_code (1 : Nat) (Option.none : Option Jvm.ClassFile.FieldType), Jvm.Cond.code ({ cls := "java/util/Arrays", name := "fill", desc := "([II)V" } : Jvm.MethodName) jdk_65_method_103_code (4 : Nat) (Option.none : Option Jvm.ClassFile.FieldType), Jvm.Cond.code ({ cls := "com/example/stickler/stickler/assignment/NodeQueue", name := "clear", desc := "()V" } : Jvm.MethodName) prog_8_method_7_code (2 : Nat) (Option.none : Option Jvm.ClassFile.FieldType), Jvm.Cond.code ({ cls := "com/example/stickler/stickler/assignment/NodeQueue", name := "isEmpty", desc := "()Z" } : Jvm.MethodName) prog_8_method_2_code (1 : Nat) (Option.some Jvm.ClassFile.FieldType.boolean), Jvm.Cond.code ({ cls := "com/example/stickler/stickler/assignment/NodeQueue", name := "offer", desc := "(I)V" } : Jvm.MethodName) prog_8_method_3_code (2 : Nat) (Option.none : Option Jvm.ClassFile.FieldType), Jvm.Cond.code ({ cls := "com/example/stickler/stickler/assignment/NodeQueue", name := "siftUp", desc := "(I)V" } : Jvm.MethodName) prog_8_method_9_code (3 : Nat) (Option.none : Option Jvm.ClassFile.FieldType), Jvm.Cond.code ({ cls := "com/example/stickler/stickler/assignment/NodeQueue", name := "moveTo", desc := "(II)V" } : Jvm.MethodName) prog_8_method_11_code (3 : Nat) (Option.none : Option Jvm.ClassFile.FieldType), Jvm.Cond.code ({ cls := "com/example/stickler/stickler/assignment/NodeQueue", name := "before", desc := "(II)Z" } : Jvm.MethodName) prog_8_method_8_code (3 : Nat) (Option.some Jvm.ClassFile.FieldType.boolean), Jvm.Cond.code ({ cls := "com/example/stickler/stickler/assignment/NodeQueue", name := "poll", desc := "()I" } : Jvm.MethodName) prog_8_method_6_code (2 : Nat) (Option.some Jvm.ClassFile.FieldType.int), Jvm.Cond.code ({ cls := "com/example/stickler/stickler/assignment/NodeQueue", name := "siftDown", desc := "(I)V" } : Jvm.MethodName) prog_8_method_10_code (4 : Nat) (Option.none : Option Jvm.ClassFile.FieldType)]
set_option maxRecDepth 65536 in
theorem codes_eq : words1.filter isCode = codes1 := rfl
theorem w_codes : ∀ c ∈ words1.filter isCode, c.before args0 about1 = true := by
  rw [codes_eq]
  intro c hc
  simp only [codes1, List.mem_cons, List.not_mem_nil, or_false] at hc
  rcases hc with rfl | rfl | rfl | rfl | rfl | rfl | rfl | rfl | rfl | rfl | rfl | rfl
  · exact w_c0
  · exact w_c1
  · exact w_c2
  · exact w_c3
  · exact w_c4
  · exact w_c5
  · exact w_c6
  · exact w_c7
  · exact w_c8
  · exact w_c9
  · exact w_c10
  · exact w_c11
set_option maxRecDepth 65536 in
theorem w_t1 : (words1.take 24).all (fun c => isCode c || c.before args0 about1) = true := by decide +kernel
set_option maxRecDepth 65536 in
theorem w_t2 : ((words1.drop 24).take 24).all (fun c => isCode c || c.before args0 about1) = true := by decide +kernel
set_option maxRecDepth 65536 in
theorem w_t3 : ((words1.drop 24).drop 24).all (fun c => isCode c || c.before args0 about1) = true := by decide +kernel
theorem w_tables : (allAtoms (Jvm.Cond.code x code maxLocals ret :: tables_1)).before args0 about1 = true := by
  rw [allAtoms_all]
  show words1.all (fun c => c.before args0 about1) = true
  refine all_split ?_ w_codes
  rw [← List.take_append_drop 24 words1, List.all_append, w_t1, ← List.take_append_drop 24 (words1.drop 24), List.all_append, w_t2, w_t3]
  rfl
set_option maxRecDepth 65536 in
theorem w_case : (Jvm.Cond.and given_1 narrow_1).before args0 about1 = true := by decide +kernel
theorem w_applies : (headSpec (Jvm.Cond.code x code maxLocals ret :: tables_1) room_1).applies x e0.platform about1 = true :=
  (Spec.applies_iff w_frames).mpr ⟨w_running, w_runnable, w_alone, w_named, w_hears, w_ripe, w_room, w_tables⟩
theorem atStart : AtStart classFile x code maxLocals ret World_1 tables_1 room_1 Calls_1 rest_1 Pre_1 launch0 p0 e0 about1 theMethod args0 below0 :=
  ⟨lists_1, trivial, launch0.admits_env _ _ _, launch0.least_env, fairChoices_fair.cas, fairChoices_fair.clock, w_frames, w_args, w_heap, w_applies, trivial, trivial, w_case⟩
end start1
theorem witness_1 : WitnessClaimed_1 := ⟨start1.p0, start1.e0, start1.about1, start1.theMethod, start1.args0, start1.below0, start1.atStart⟩
end Jvm.Pilot.@@N@@
