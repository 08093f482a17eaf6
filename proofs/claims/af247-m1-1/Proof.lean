import JvmDerived
import JvmDerived.Pilot.@@N@@Statement
import JvmDerived.Pilot.@@N@@Code
set_option linter.unusedVariables false
set_option linter.unusedSimpArgs false
namespace Jvm.Pilot.@@N@@
open Jvm Jvm.ClassFile Sem Op Lib Jvm.Free Jvm.Stand Jvm.LawKit Jvm.RoadKit Bundle Jvm.Pilot.@@N@@.Jvm.D
theorem own_g {Z : State} {a0 : Array Value} (hw : ∀ d ∈ tables_1, d.before a0 Z = true) {i : Nat} {d : Jvm.Cond} (h : tables_1[i]? = some d) : d.before a0 Z = true := hw _ (List.mem_of_getElem? h)
/-- the walk from the frame g in the state T comes to an end of which K holds -/
def own_E (p : Program) (e : Env) (below : List Frame) (K : Outcome → State → Prop) (T : State) (g : JFrame) : Prop := ∃ s₂ o, Steps p.tables e below (T.setTop g) s₂ ∧ s₂.status = .running ∧ Ended s₂ below o ∧ K o s₂
def own_K (s : State) (Q : Option Value → Heap → List Loc → Prop) (kc ks : Nat) (o : Outcome) (U : State) : Prop := ∃ v L, o = .returned v ∧ Q v U.heap L ∧ FrameEnd s o U L kc ks
section OwnKit
variable {p : Program} {l : Launch} {e : Env} {R : Room} {s : State} {m : MethodId} {args : Array Value} {below : List Frame} {meth : Method} {c : Code} {T T' : State} {locs : List Loc} {cells slots : Nat} {K : Outcome → State → Prop} {Z : State} {h h' : Heap}
theorem own_S {g : JFrame} (g' : JFrame) (st : ∀ t, Steps p.tables e below (T'.setTop g') t → Steps p.tables e below (T.setTop g) t) (k : own_E p e below K T' g') : own_E p e below K T g := by
  obtain ⟨s₂, o, h1, h2⟩ := k
  exact ⟨s₂, o, st _ h1, h2⟩
theorem own_s {g : JFrame} {t : State} (g' : JFrame) (st : ∀ t, Steps p.tables e below (T'.setTop g') t → Steps p.tables e below (T.setTop g) t) (k : Steps p.tables e below (T'.setTop g') t) : Steps p.tables e below (T.setTop g) t := st t k
theorem own_ret {Q : Option Value → Heap → List Loc → Prop} {kc ks : Nat} (X : Stand p l e R s m args below meth c T locs cells slots) (hx : p.tables.exec = Jvm.exec) (hlk : meth.locks = false) {pc : Nat} {Ls : Array Slot} {w : Value} {t : FieldType} {i : Instr} {rest : List Value} (hret : meth.sig.returnType = some t) (hn : narrow t w = w)
    (hi : (i = .ireturn ∧ (t = .int ∨ t = .boolean ∨ t = .byte ∨ t = .char ∨ t = .short) ∧ ∃ z, w = .int z) ∨ (i = .lreturn ∧ t = .long ∧ ∃ z, w = .long z) ∨ (i = .dreturn ∧ t = .double ∧ ∃ z, w = .double z) ∨ (i = .freturn ∧ t = .float ∧ ∃ z, w = .float z) ∨ (i = .areturn ∧ t.isReference = true ∧ w.isRef = true))
    (hd : decode c.code pc = .ok (i, 1)) (hQ : Q (some w) T.heap locs) (h1 : cells ≤ kc) (h2 : slots ≤ ks) : own_E p e below (own_K s Q kc ks) T (mkF m pc Ls (w :: rest)) := by
  obtain ⟨fs, hr, hrun, hended, hW, hsame⟩ := X.leave (v := some w) (fun h => by rw [hret] at h; cases h) hlk
  exact ⟨_, _, retOut X hx hret hn hi hd hr, hrun, hended, _, _, rfl, hQ, ⟨_, rfl⟩, hW, hsame.mono h1 h2⟩
theorem own_retN {Q : Option Value → Heap → List Loc → Prop} {kc ks : Nat} (X : Stand p l e R s m args below meth c T locs cells slots) (hx : p.tables.exec = Jvm.exec) (hlk : meth.locks = false) {pc : Nat} {Ls : Array Slot} {z : Int32} {t : FieldType} {rest : List Value} (hret : meth.sig.returnType = some t) (ht : t = .boolean ∨ t = .byte ∨ t = .char ∨ t = .short)
    (hd : decode c.code pc = .ok (.ireturn, 1)) (hQ : Q (some (.int (nar t z))) T.heap locs) (h1 : cells ≤ kc) (h2 : slots ≤ ks) : own_E p e below (own_K s Q kc ks) T (mkF m pc Ls (.int z :: rest)) := by
  obtain ⟨fs, hr, hrun, hended, hW, hsame⟩ := X.leave (v := some (.int (nar t z))) (fun h => by rw [hret] at h; cases h) hlk
  exact ⟨_, _, retN X hx hret ht hd hr, hrun, hended, _, _, rfl, hQ, ⟨_, rfl⟩, hW, hsame.mono h1 h2⟩
theorem own_ret0 {Q : Option Value → Heap → List Loc → Prop} {kc ks : Nat} (X : Stand p l e R s m args below meth c T locs cells slots) (hx : p.tables.exec = Jvm.exec) (hlk : meth.locks = false) {pc : Nat} {Ls : Array Slot} (hret : meth.sig.returnType = none)
    (hd : decode c.code pc = .ok (.return_, 1)) (hQ : Q none T.heap locs) (h1 : cells ≤ kc) (h2 : slots ≤ ks) : own_E p e below (own_K s Q kc ks) T (mkF m pc Ls []) := by
  obtain ⟨fs, hr, hrun, hended, hW, hsame⟩ := X.leave (v := none) (fun _ => rfl) hlk
  exact ⟨_, _, X.returnOut hx hret hd hr, hrun, hended, _, _, rfl, hQ, ⟨_, rfl⟩, hW, hsame.mono h1 h2⟩
theorem own_weak (X : Stand p l e R s m args below meth c T locs cells slots) {locs' : List Loc} {kc ks : Nat} (hl : ∀ y ∈ locs, y ∈ locs' ∨ s.heap.size ≤ y.base) (h1 : cells ≤ kc) (h2 : slots ≤ ks) : Stand p l e R s m args below meth c T locs' kc ks :=
  { X with same := (X.same.sift hl).mono h1 h2 }
theorem Sta_keep {C n d : String} {w : Value} {ws : List Addr} {n0 : Nat} (F : Sta Z h C n d w) (K : Keep h h' ws) (hn : ∀ a ∈ ws, ∀ cell : Cell, h[a]? = some cell → cell.vm.isStatics = false) : Sta Z h' C n d w := by
  obtain ⟨cf, i, k, f, st, cell, h1, h2, h3, h4, h5, h6, h7⟩ := F
  exact ⟨cf, i, k, f, st, cell, h1, h2, h3, h4, K.2.1 st cell h5 (fun q => by have := hn st q cell h5; rw [h6] at this; cases this), h6, h7⟩
theorem Ins_keep {a : Addr} {C : String} {b : Bool} {ws : List Addr} (F : Ins Z h a C b) (K : Keep h h' ws) : Ins Z h' a C b := by
  obtain ⟨cell, cT, h1, h2, h3⟩ := F
  obtain ⟨c', q1, q2, q3, -⟩ := K.2.2 a cell h1
  exact ⟨c', cT, q1, h2, by rw [q2, q3]; exact h3⟩
end OwnKit
/-- an array whose places hold vs -/
def own_Ar (Z : State) (h : Heap) (a : Addr) (k : ClassId) (ty : FieldType) (vs : List Value) : Prop := ∃ c : Cell, Arr Z h a c ty ∧ c.cls = k ∧ c.slots = vs.toArray
section OwnArr
variable {p : Program} {l : Launch} {e : Env} {R : Room} {s : State} {m : MethodId} {args : Array Value} {below : List Frame} {meth : Method} {c : Code} {T : State} {locs : List Loc} {cells slots : Nat} {Z : State} {h h' : Heap} {a b : Addr} {k : ClassId} {ty : FieldType} {vs : List Value} {v : Value}
theorem own_Ar.lt (F : own_Ar Z h a k ty vs) : a < h.size := by obtain ⟨c, A, -⟩ := F; exact A.lt
theorem own_Ar.ext (F : own_Ar Z h a k ty vs) (E : Ext h h') : own_Ar Z h' a k ty vs := by obtain ⟨c, A, r⟩ := F; exact ⟨c, A.ext E, r⟩
theorem own_Ar.other {sl : Nat} (F : own_Ar Z h b k ty vs) (W : Wr h h' a sl v) (q : b ≠ a) : own_Ar Z h' b k ty vs := by obtain ⟨c, A, r⟩ := F; exact ⟨c, A.other W q, r⟩
theorem own_Ar.keep {ws : List Addr} (F : own_Ar Z h a k ty vs) (K : Keep h h' ws) (q : a ∉ ws) : own_Ar Z h' a k ty vs := by obtain ⟨c, A, r⟩ := F; exact ⟨c, ⟨K.2.1 a c A.1 q, A.2⟩, r⟩
theorem own_Ar.new {z : Int32} (A : Arr Z h a (newA k ty z) ty) {n : Nat} (hn : z.toNatClampNeg = n) : own_Ar Z h a k ty (List.replicate n (defaultValue ty)) := ⟨_, A, rfl, by
  subst hn
  show Array.replicate _ _ = _
  simp⟩
theorem own_Ar.set {j : Nat} (F : own_Ar Z h a k ty vs) (W : Wr h h' a j v) : own_Ar Z h' a k ty (vs.set j v) := by
  obtain ⟨c, A, hk, hs⟩ := F
  refine ⟨c.setSlot j v, A.same W, hk, ?_⟩
  show c.slots.setIfInBounds j v = _
  rw [hs]
  simp
theorem own_in {c : Cell} (hs : c.slots = vs.toArray) {j : Int32} (hj : ¬ j < 0) (hl : j.toNatClampNeg < vs.length) : ¬ (j < 0 ∨ c.slots.size ≤ j.toNatClampNeg) := by
  rw [hs]
  simp only [List.size_toArray]
  intro q
  rcases q with q | q
  · exact hj q
  · omega
theorem own_lt_of {i : Nat} (hv : vs[i]? = some v) : i < vs.length := (List.getElem?_eq_some_iff.mp hv).1
theorem own_get {c : Cell} (hs : c.slots = vs.toArray) {i : Nat} (hv : vs[i]? = some v) : c.slots[i]? = some v := by rw [hs]; simpa using hv
theorem own_ldI (X : Stand p l e R s m args below meth c T locs cells slots) (hx : p.tables.exec = Jvm.exec) (hZ : Z.Warmed39 s.vm) (eT : T.heap = h) (F : own_Ar Z h a k .int vs) {j : Int32} (hj : ¬ j < 0) (hv : vs[j.toNatClampNeg]? = some v) {g : JFrame} (hg : g.method = m) {rest : List Value} (hs : g.stack = .int j :: .ref a :: rest) (hd : decode c.code g.pc = .ok (.iaload, 1)) :
    ∀ t, Steps p.tables e below (T.setTop { g with pc := g.pc + 1, stack := v :: rest }) t → Steps p.tables e below (T.setTop g) t := fun t q => by
  obtain ⟨cl, A, -, hs'⟩ := F
  exact X.iaload hx (by rw [eT]; exact A.1) (State.isArrayOf_alike hZ.alike A.2.1) A.2.2 (own_in hs' hj (own_lt_of hv)) (own_get hs' hv) hg hs hd t q
theorem own_ldJ (X : Stand p l e R s m args below meth c T locs cells slots) (hx : p.tables.exec = Jvm.exec) (hZ : Z.Warmed39 s.vm) (eT : T.heap = h) (F : own_Ar Z h a k .long vs) {j : Int32} (hj : ¬ j < 0) (hv : vs[j.toNatClampNeg]? = some v) {g : JFrame} (hg : g.method = m) {rest : List Value} (hs : g.stack = .int j :: .ref a :: rest) (hd : decode c.code g.pc = .ok (.laload, 1)) :
    ∀ t, Steps p.tables e below (T.setTop { g with pc := g.pc + 1, stack := v :: rest }) t → Steps p.tables e below (T.setTop g) t := fun t q => by
  obtain ⟨cl, A, -, hs'⟩ := F
  exact X.laload hx (by rw [eT]; exact A.1) (State.isArrayOf_alike hZ.alike A.2.1) A.2.2 (own_in hs' hj (own_lt_of hv)) (own_get hs' hv) hg hs hd t q
theorem own_ldZ (X : Stand p l e R s m args below meth c T locs cells slots) (hx : p.tables.exec = Jvm.exec) (hZ : Z.Warmed39 s.vm) (eT : T.heap = h) (F : own_Ar Z h a k .boolean vs) {j : Int32} (hj : ¬ j < 0) (hv : vs[j.toNatClampNeg]? = some v) {g : JFrame} (hg : g.method = m) {rest : List Value} (hs : g.stack = .int j :: .ref a :: rest) (hd : decode c.code g.pc = .ok (.baload, 1)) :
    ∀ t, Steps p.tables e below (T.setTop { g with pc := g.pc + 1, stack := v :: rest }) t → Steps p.tables e below (T.setTop g) t := fun t q => by
  obtain ⟨cl, A, -, hs'⟩ := F
  exact X.baloadBooleans hx (by rw [eT]; exact A.1) (State.isArrayOf_alike hZ.alike A.2.1) A.2.2 (own_in hs' hj (own_lt_of hv)) (own_get hs' hv) hg hs hd t q
theorem own_ldR (X : Stand p l e R s m args below meth c T locs cells slots) (hx : p.tables.exec = Jvm.exec) (hZ : Z.Warmed39 s.vm) (eT : T.heap = h) (F : own_Ar Z h a k ty vs) {j : Int32} (hj : ¬ j < 0) (hv : vs[j.toNatClampNeg]? = some v) (hty : ty.isReference = true) {g : JFrame} (hg : g.method = m) {rest : List Value} (hs : g.stack = .int j :: .ref a :: rest) (hd : decode c.code g.pc = .ok (.aaload, 1)) :
    ∀ t, Steps p.tables e below (T.setTop { g with pc := g.pc + 1, stack := v :: rest }) t → Steps p.tables e below (T.setTop g) t := fun t q => by
  obtain ⟨cl, A, -, hs'⟩ := F
  exact X.aaload hx (by rw [eT]; exact A.1) (State.isArrayOf_alike hZ.alike A.2.1) hty A.2.2 (own_in hs' hj (own_lt_of hv)) (own_get hs' hv) hg hs hd t q
theorem own_alen (X : Stand p l e R s m args below meth c T locs cells slots) (hx : p.tables.exec = Jvm.exec) (hZ : Z.Warmed39 s.vm) (eT : T.heap = h) (F : own_Ar Z h a k ty vs) {g : JFrame} (hg : g.method = m) {rest : List Value} (hs : g.stack = .ref a :: rest) (hd : decode c.code g.pc = .ok (.arraylength, 1)) :
    ∀ t, Steps p.tables e below (T.setTop { g with pc := g.pc + 1, stack := .int vs.length.toInt32 :: rest }) t → Steps p.tables e below (T.setTop g) t := fun t q => by
  obtain ⟨cl, A, -, hs'⟩ := F
  have hl : cl.slots.size = vs.length := by rw [hs']; simp
  rw [← hl] at q
  exact X.arraylength hx (by rw [eT]; exact A.1) (State.isArrayOf_alike hZ.alike A.2.1) hg hs hd t q
theorem own_stI (X : Stand p l e R s m args below meth c T locs cells slots) (hx : p.tables.exec = Jvm.exec) (hZ : Z.Warmed39 s.vm) (eT : T.heap = h) (F : own_Ar Z h a k .int vs) {j x : Int32} (hj : ¬ j < 0) (hl : j.toNatClampNeg < vs.length) {g : JFrame} (hg : g.method = m) {rest : List Value} (hs : g.stack = .int x :: .int j :: .ref a :: rest) (hd : decode c.code g.pc = .ok (.iastore, 1)) :
    ∃ T' h', Stand p l e R s m args below meth c T' (locs ++ [⟨a, j.toNatClampNeg⟩]) cells slots ∧ T'.heap = h' ∧ Wr h h' a j.toNatClampNeg (.int x) ∧ own_Ar Z h' a k .int (vs.set j.toNatClampNeg (.int x)) ∧ ∀ t, Steps p.tables e below (T'.setTop { g with pc := g.pc + 1, stack := rest }) t → Steps p.tables e below (T.setTop g) t := by
  have F0 := F
  obtain ⟨cl, A, -, hs'⟩ := F
  obtain ⟨T', h', X', e', W, st⟩ := stI X hx hZ eT A (own_in hs' hj hl) hg hs hd
  exact ⟨T', h', X', e', W, F0.set W, st⟩
theorem own_stJ (X : Stand p l e R s m args below meth c T locs cells slots) (hx : p.tables.exec = Jvm.exec) (hZ : Z.Warmed39 s.vm) (eT : T.heap = h) (F : own_Ar Z h a k .long vs) {j : Int32} {x : Int64} (hj : ¬ j < 0) (hl : j.toNatClampNeg < vs.length) {g : JFrame} (hg : g.method = m) {rest : List Value} (hs : g.stack = .long x :: .int j :: .ref a :: rest) (hd : decode c.code g.pc = .ok (.lastore, 1)) :
    ∃ T' h', Stand p l e R s m args below meth c T' (locs ++ [⟨a, j.toNatClampNeg⟩]) cells slots ∧ T'.heap = h' ∧ Wr h h' a j.toNatClampNeg (.long x) ∧ own_Ar Z h' a k .long (vs.set j.toNatClampNeg (.long x)) ∧ ∀ t, Steps p.tables e below (T'.setTop { g with pc := g.pc + 1, stack := rest }) t → Steps p.tables e below (T.setTop g) t := by
  have F0 := F
  obtain ⟨cl, A, -, hs'⟩ := F
  obtain ⟨T', h', X', e', W, st⟩ := stJ X hx hZ eT A (own_in hs' hj hl) hg hs hd
  exact ⟨T', h', X', e', W, F0.set W, st⟩
theorem own_stZ (X : Stand p l e R s m args below meth c T locs cells slots) (hx : p.tables.exec = Jvm.exec) (hZ : Z.Warmed39 s.vm) (eT : T.heap = h) (F : own_Ar Z h a k .boolean vs) {j x : Int32} (hj : ¬ j < 0) (hl : j.toNatClampNeg < vs.length) {g : JFrame} (hg : g.method = m) {rest : List Value} (hs : g.stack = .int x :: .int j :: .ref a :: rest) (hd : decode c.code g.pc = .ok (.bastore, 1)) :
    ∃ T' h', Stand p l e R s m args below meth c T' (locs ++ [⟨a, j.toNatClampNeg⟩]) cells slots ∧ T'.heap = h' ∧ Wr h h' a j.toNatClampNeg (.int (nar .boolean x)) ∧ own_Ar Z h' a k .boolean (vs.set j.toNatClampNeg (.int (nar .boolean x))) ∧ ∀ t, Steps p.tables e below (T'.setTop { g with pc := g.pc + 1, stack := rest }) t → Steps p.tables e below (T.setTop g) t := by
  have F0 := F
  obtain ⟨cl, A, -, hs'⟩ := F
  obtain ⟨T', h', X', e', W, st⟩ := stZ X hx hZ eT A (own_in hs' hj hl) hg hs hd
  exact ⟨T', h', X', e', W, F0.set W, st⟩
theorem own_ldC (X : Stand p l e R s m args below meth c T locs cells slots) (hx : p.tables.exec = Jvm.exec) (hZ : Z.Warmed39 s.vm) (eT : T.heap = h) (F : own_Ar Z h a k .char vs) {j : Int32} (hj : ¬ j < 0) (hv : vs[j.toNatClampNeg]? = some v) {g : JFrame} (hg : g.method = m) {rest : List Value} (hs : g.stack = .int j :: .ref a :: rest) (hd : decode c.code g.pc = .ok (.caload, 1)) :
    ∀ t, Steps p.tables e below (T.setTop { g with pc := g.pc + 1, stack := v :: rest }) t → Steps p.tables e below (T.setTop g) t := fun t q => by
  obtain ⟨cl, A, -, hs'⟩ := F
  exact X.caload hx (by rw [eT]; exact A.1) (State.isArrayOf_alike hZ.alike A.2.1) A.2.2 (own_in hs' hj (own_lt_of hv)) (own_get hs' hv) hg hs hd t q
theorem own_stC (X : Stand p l e R s m args below meth c T locs cells slots) (hx : p.tables.exec = Jvm.exec) (hZ : Z.Warmed39 s.vm) (eT : T.heap = h) (F : own_Ar Z h a k .char vs) {j x : Int32} (hj : ¬ j < 0) (hl : j.toNatClampNeg < vs.length) {g : JFrame} (hg : g.method = m) {rest : List Value} (hs : g.stack = .int x :: .int j :: .ref a :: rest) (hd : decode c.code g.pc = .ok (.castore, 1)) :
    ∃ T' h', Stand p l e R s m args below meth c T' (locs ++ [⟨a, j.toNatClampNeg⟩]) cells slots ∧ T'.heap = h' ∧ Wr h h' a j.toNatClampNeg (.int (nar .char x)) ∧ own_Ar Z h' a k .char (vs.set j.toNatClampNeg (.int (nar .char x))) ∧ ∀ t, Steps p.tables e below (T'.setTop { g with pc := g.pc + 1, stack := rest }) t → Steps p.tables e below (T.setTop g) t := by
  have F0 := F
  obtain ⟨cl, A, -, hs'⟩ := F
  obtain ⟨T', h', X', e', W, st⟩ := stC X hx hZ eT A (own_in hs' hj hl) hg hs hd
  exact ⟨T', h', X', e', W, F0.set W, st⟩
theorem own_stB (X : Stand p l e R s m args below meth c T locs cells slots) (hx : p.tables.exec = Jvm.exec) (hZ : Z.Warmed39 s.vm) (eT : T.heap = h) (F : own_Ar Z h a k .byte vs) {j x : Int32} (hj : ¬ j < 0) (hl : j.toNatClampNeg < vs.length) {g : JFrame} (hg : g.method = m) {rest : List Value} (hs : g.stack = .int x :: .int j :: .ref a :: rest) (hd : decode c.code g.pc = .ok (.bastore, 1)) :
    ∃ T' h', Stand p l e R s m args below meth c T' (locs ++ [⟨a, j.toNatClampNeg⟩]) cells slots ∧ T'.heap = h' ∧ Wr h h' a j.toNatClampNeg (.int (nar .byte x)) ∧ own_Ar Z h' a k .byte (vs.set j.toNatClampNeg (.int (nar .byte x))) ∧ ∀ t, Steps p.tables e below (T'.setTop { g with pc := g.pc + 1, stack := rest }) t → Steps p.tables e below (T.setTop g) t := by
  have F0 := F
  obtain ⟨cl, A, -, hs'⟩ := F
  obtain ⟨T', h', X', e', W, st⟩ := stB X hx hZ eT A (own_in hs' hj hl) hg hs hd
  exact ⟨T', h', X', e', W, F0.set W, st⟩
theorem own_stR {C : String} {y : Addr} (X : Stand p l e R s m args below meth c T locs cells slots) (hx : p.tables.exec = Jvm.exec) (hZ : Z.Warmed39 s.vm) (eT : T.heap = h) (F : own_Ar Z h a k (.object C) vs) (O : Ovr Z k C) (I : Ins Z h y C true) {j : Int32} (hj : ¬ j < 0) (hl : j.toNatClampNeg < vs.length) {g : JFrame} (hg : g.method = m) {rest : List Value} (hs : g.stack = .ref y :: .int j :: .ref a :: rest) (hd : decode c.code g.pc = .ok (.aastore, 1)) :
    ∃ T' h', Stand p l e R s m args below meth c T' (locs ++ [⟨a, j.toNatClampNeg⟩]) cells slots ∧ T'.heap = h' ∧ Wr h h' a j.toNatClampNeg (.ref y) ∧ own_Ar Z h' a k (.object C) (vs.set j.toNatClampNeg (.ref y)) ∧ ∀ t, Steps p.tables e below (T'.setTop { g with pc := g.pc + 1, stack := rest }) t → Steps p.tables e below (T.setTop g) t := by
  have F0 := F
  obtain ⟨cl, A, hk, hs'⟩ := F
  obtain ⟨T', h', X', e', W, st⟩ := stR X hx hZ eT A (own_in hs' hj hl) rfl (Sto.ofV A hk O I) hg hs hd
  exact ⟨T', h', X', e', W, F0.set W, st⟩
theorem own_ar_plain (F : own_Ar Z h a k ty vs) : ∀ cell : Cell, h[a]? = some cell → cell.vm.isStatics = false := fun cell hc => by
  obtain ⟨c1, A, -⟩ := F
  cases A.1.symm.trans hc
  exact A.plain
end OwnArr
theorem own_fieldI {Z : State} {args : Array Value} {t : Term} {C n d : String} {k : Int32} {a : Addr} (ev : t.eval args Z none [] Z = some (.ref a)) (h : (Cond.eq (.field t C n d) (.int k)).value args Z none Z [] = some true) : Fld Z Z.heap a C n d (.int k) := by
  obtain ⟨x, y, h1, h2, k1, k2⟩ := cmp_v (Or.inl h)
  have hy : y = .int k := (Option.some.inj h2).symm
  subst hy
  obtain ⟨z, rfl⟩ : ∃ z, x = .int z := k2
  have hz : z = k := gotT (Cond.eq_ints h1 h2) h
  subst hz
  exact Fld.start ((fld_at ev).symm.trans h1)
theorem own_exa_plain {Z : State} {h : Heap} {a : Addr} {C : String} (F : Exa Z h a C) : ∀ cell : Cell, h[a]? = some cell → cell.vm.isStatics = false := fun cell hc => by
  obtain ⟨c1, k, h1, h2, h3, h4, h5⟩ := F
  cases h1.symm.trans hc
  exact h4
theorem own_allS {P : Addr → Prop} {y : Addr} {L : List Addr} (q : P y) (r : ∀ x ∈ L, P x) : ∀ x ∈ y :: L, P x := fun x z => (List.mem_cons.mp z).elim (fun u => u ▸ q) (r x)
theorem own_m9 (x i : Int32) (h : i = (x &&& (2147483647 : Int32)) % (9 : Int32)) : i = 0 ∨ i = 1 ∨ i = 2 ∨ i = 3 ∨ i = 4 ∨ i = 5 ∨ i = 6 ∨ i = 7 ∨ i = 8 := by
  have hm := c_mask x 2147483647 31 (by decide) (by decide)
  have hi : i.toInt = ((x &&& (2147483647 : Int32)).toInt).tmod 9 := by rw [h, Int32.toInt_mod]; rfl
  have e0 : (0 : Int32).toInt = 0 := rfl
  have e1 : (1 : Int32).toInt = 1 := rfl
  have e2 : (2 : Int32).toInt = 2 := rfl
  have e3 : (3 : Int32).toInt = 3 := rfl
  have e4 : (4 : Int32).toInt = 4 := rfl
  have e5 : (5 : Int32).toInt = 5 := rfl
  have e6 : (6 : Int32).toInt = 6 := rfl
  have e7 : (7 : Int32).toInt = 7 := rfl
  have e8 : (8 : Int32).toInt = 8 := rfl
  simp only [← Int32.toInt_inj]
  rw [Int.tmod_eq_emod_of_nonneg (by omega)] at hi
  omega
abbrev own_y0 : MethodName := ⟨"com/example/purgatory/purgatory/model/JobState", "hasBeenSuspended", "()Z"⟩
theorem d1_0 : decode prog_6_method_6_code 0 = .ok (.aload_n 0, 1) := by decide +kernel
theorem d1_1 : decode prog_6_method_6_code 1 = .ok (.getstatic 16, 3) := by decide +kernel
theorem d1_4 : decode prog_6_method_6_code 4 = .ok (.if_acmp .eq 10, 3) := by decide +kernel
theorem d1_7 : decode prog_6_method_6_code 7 = .ok (.aload_n 0, 1) := by decide +kernel
theorem d1_8 : decode prog_6_method_6_code 8 = .ok (.getstatic 19, 3) := by decide +kernel
theorem d1_11 : decode prog_6_method_6_code 11 = .ok (.if_acmp .ne 7, 3) := by decide +kernel
theorem d1_14 : decode prog_6_method_6_code 14 = .ok (.iconst 1, 1) := by decide +kernel
theorem d1_15 : decode prog_6_method_6_code 15 = .ok (.goto 4, 3) := by decide +kernel
theorem d1_18 : decode prog_6_method_6_code 18 = .ok (.iconst 0, 1) := by decide +kernel
theorem d1_19 : decode prog_6_method_6_code 19 = .ok (.ireturn, 1) := by decide +kernel
theorem own_pn_com_example_purgatory_purgatory_model_JobState : plainName "com/example/purgatory/purgatory/model/JobState" = true := by first | (simp [plainName, overriddenIn]; done) | decide +kernel
theorem own_ef_hs (m : MethodId) (y0 : Addr) : entryFrame m #[(.ref y0)] 1 = mkF m 0 #[rv y0] [] := by first | (simp [entryFrame, mkF, argsToLocals, Value.category]; done) | rfl
def own_Qhs (Z : State) (a : Addr) (sp : Addr) (rs : Addr) (h0 : Heap) (n0 : Nat) (v : Option Value) (h : Heap) (L : List Loc) : Prop := v = some (.int (if a = sp ∨ a = rs then (1 : Int32) else (0 : Int32))) ∧ Fr n0 L ∧ h = h0
set_option maxRecDepth 65536 in
set_option maxHeartbeats 40000000 in
theorem own_rmhs (l : Launch) (Z : State) (a0 : Array Value) (hw : ∀ d ∈ tables_1, d.before a0 Z = true) (ws : List Jvm.Cond) (a : Addr) (sp : Addr) (rs : Addr) (h0 : Heap) (n0 : Nat) (Z0 : n0 ≤ h0.size) (P0 : Sta Z h0 "com/example/purgatory/purgatory/model/JobState" "SUSPENDED" "Lcom/example/purgatory/purgatory/model/JobState;" (.ref sp)) (P1 : Sta Z h0 "com/example/purgatory/purgatory/model/JobState" "RESUMED" "Lcom/example/purgatory/purgatory/model/JobState;" (.ref rs)) :
    MetFree l own_y0 (head1 (Jvm.Cond.code own_y0 prog_6_method_6_code 1 (some .boolean) :: ws) ({ frames := 0, cells := 0, slots := 0, locals := 0 } : Room)) (fun az Uz => az = #[(.ref a)] ∧ Z.Warmed39 Uz.vm ∧ Uz.heap = h0) (fun _ _ _ _ _ => True) (fun _ U o U' => ∃ v L, o = .returned v ∧ own_Qhs Z a sp rs h0 n0 v U'.heap L ∧ FrameEnd U o U' L ({ frames := 0, cells := 0, slots := 0, locals := 0 } : Room).cells ({ frames := 0, cells := 0, slots := 0, locals := 0 } : Room).slots) := by
  refine MetFree.of_bodySF (plainFor_of_name own_pn_com_example_purgatory_purgatory_model_JobState) hisR ?_
  intro p e s m args below meth c s₁ Bd hml0 hP hK
  obtain ⟨rfl, hZ, hh⟩ := hP
  have hx := Bd.exec
  have hby := Bd.bytes
  have hml : c.maxLocals = 1 := hml0
  have hown : s.vm.findClass "com/example/purgatory/purgatory/model/JobState" = some m.cls := findClass_of_methodNamed Bd.named
  have hnm := (name_of_methodNamed Bd.named Bd.method).1
  have hlk : meth.locks = false := BodyLoose.notSynchronized Bd
  have hret := Bd.returns
  have X0 : Stand p l e ({ frames := 0, cells := 0, slots := 0, locals := 0 } : Room) s m #[(.ref a)] below meth c s₁ [] 0 0 := Stand.of_body Bd
  have e0 : s₁.heap = h0 := by rw [← hh, Bd.state]; rfl
  have N0 := Fr.nil n0
  show own_E p e below (own_K s (own_Qhs Z a sp rs h0 n0) ({ frames := 0, cells := 0, slots := 0, locals := 0 } : Room).cells ({ frames := 0, cells := 0, slots := 0, locals := 0 } : Room).slots) s₁ (entryFrame m #[(.ref a)] 1)
  refine own_S (mkF m 0 #[rv a] []) (fun _ k => castTop (own_ef_hs m (a)) k) ?_
  refine own_S (mkF m 1 #[rv a] [(.ref a)]) (fun _ k => XS.aloadN X0.here hx rfl (hb hby d1_0) rfl rfl k) ?_
  obtain ⟨T1, X1, e1, st1⟩ := getS (host := "") X0 hx hZ hown (own_g hw (i := 29) rfl) Via.refl e0 P0 (g := (mkF m 1 #[rv a] [(.ref a)])) rfl (hb hby d1_1)
  refine own_S (mkF m 4 #[rv a] [(.ref sp), (.ref a)]) st1 ?_
  by_cases h1 : a = sp
  · -- a = sp
    refine own_S (mkF m 14 #[rv a] []) (fun _ k => acmp X1 hx rfl rfl rfl (pc0 := 4) (pc' := 14) (same := true) rfl (hb hby d1_4) rfl (by simp [h1]) (by decide) (by decide) k) ?_
    refine own_S (mkF m 15 #[rv a] [(.int 1)]) (fun _ k => XS.iconst X1.here hx rfl (hb hby d1_14) k) ?_
    refine own_S (mkF m 19 #[rv a] [(.int 1)]) (fun _ k => XS.goto X1.here hx rfl (pc0 := 15) (pc' := 19) rfl (hb hby d1_15) (by decide) (by decide) k) ?_
    exact own_retN X1 hx hlk (t := .boolean) hret (by simp) (hb hby d1_19) (by rw [e1]; exact ⟨(by rw [if_pos (Or.inl h1)]; rfl), N0, rfl⟩) (by decide) (by decide)
  · -- not a = sp
    refine own_S (mkF m 7 #[rv a] []) (fun _ k => acmp X1 hx rfl rfl rfl (pc0 := 4) (pc' := 7) (same := false) rfl (hb hby d1_4) rfl (by simp [h1]) (by decide) (by decide) k) ?_
    refine own_S (mkF m 8 #[rv a] [(.ref a)]) (fun _ k => XS.aloadN X1.here hx rfl (hb hby d1_7) rfl rfl k) ?_
    obtain ⟨T2, X2, e2, st2⟩ := getS (host := "") X1 hx hZ hown (own_g hw (i := 30) rfl) Via.refl e1 P1 (g := (mkF m 8 #[rv a] [(.ref a)])) rfl (hb hby d1_8)
    refine own_S (mkF m 11 #[rv a] [(.ref rs), (.ref a)]) st2 ?_
    by_cases h2 : a = rs
    · -- a = rs
      refine own_S (mkF m 14 #[rv a] []) (fun _ k => acmp X2 hx rfl rfl rfl (pc0 := 11) (pc' := 14) (same := true) rfl (hb hby d1_11) rfl (by simp [h2]) (by decide) (by decide) k) ?_
      refine own_S (mkF m 15 #[rv a] [(.int 1)]) (fun _ k => XS.iconst X2.here hx rfl (hb hby d1_14) k) ?_
      refine own_S (mkF m 19 #[rv a] [(.int 1)]) (fun _ k => XS.goto X2.here hx rfl (pc0 := 15) (pc' := 19) rfl (hb hby d1_15) (by decide) (by decide) k) ?_
      exact own_retN X2 hx hlk (t := .boolean) hret (by simp) (hb hby d1_19) (by rw [e2]; exact ⟨(by rw [if_pos (Or.inr h2)]; rfl), N0, rfl⟩) (by decide) (by decide)
    · -- not a = rs
      refine own_S (mkF m 18 #[rv a] []) (fun _ k => acmp X2 hx rfl rfl rfl (pc0 := 11) (pc' := 18) (same := false) rfl (hb hby d1_11) rfl (by simp [h2]) (by decide) (by decide) k) ?_
      refine own_S (mkF m 19 #[rv a] [(.int 0)]) (fun _ k => XS.iconst X2.here hx rfl (hb hby d1_18) k) ?_
      exact own_retN X2 hx hlk (t := .boolean) hret (by simp) (hb hby d1_19) (by rw [e2]; exact ⟨(by rw [if_neg (fun q => q.elim h1 h2)]; rfl), N0, rfl⟩) (by decide) (by decide)
theorem own_pd___Z : parseMethodDescriptor "()Z" = some ⟨[], (some .boolean)⟩ := by decide +kernel
theorem own_pn_com_example_purgatory_purgatory_model_JobStateHasBeenSuspendedPinLaw : plainName "com/example/purgatory/purgatory/model/JobStateHasBeenSuspendedPinLaw" = true := by first | (simp [plainName, overriddenIn]; done) | decide +kernel
theorem own_ef_law (m : MethodId) (y0 : Int32) : entryFrame m #[(.int y0)] maxLocals = mkF m 0 #[iv y0, .unset, .unset, .unset] [] := by first | (simp [entryFrame, mkF, argsToLocals, Value.category, maxLocals]; done) | rfl
def own_Qlaw (Z : State) (kk : Int32) (b0 : Addr) (b1 : Addr) (b2 : Addr) (b3 : Addr) (b4 : Addr) (b5 : Addr) (b6 : Addr) (b7 : Addr) (b8 : Addr) (h0 : Heap) (n0 : Nat) (v : Option Value) (h : Heap) (L : List Loc) : Prop := v = some (.int 1) ∧ Fr n0 L ∧ True
set_option maxRecDepth 65536 in
set_option maxHeartbeats 40000000 in
theorem own_rmlaw (l : Launch) (Z : State) (a0 : Array Value) (hw : ∀ d ∈ tables_1, d.before a0 Z = true) (ws : List Jvm.Cond) (kk : Int32) (b0 : Addr) (b1 : Addr) (b2 : Addr) (b3 : Addr) (b4 : Addr) (b5 : Addr) (b6 : Addr) (b7 : Addr) (b8 : Addr) (h0 : Heap) (n0 : Nat) (Z0 : n0 ≤ h0.size) (P0 : Sta Z h0 "com/example/purgatory/purgatory/model/JobState" "PENDING" "Lcom/example/purgatory/purgatory/model/JobState;" (.ref b0)) (P1 : Exa Z h0 b0 "com/example/purgatory/purgatory/model/JobState") (P2 : Sta Z h0 "com/example/purgatory/purgatory/model/JobState" "RUNNING" "Lcom/example/purgatory/purgatory/model/JobState;" (.ref b1)) (P3 : Exa Z h0 b1 "com/example/purgatory/purgatory/model/JobState") (P4 : Sta Z h0 "com/example/purgatory/purgatory/model/JobState" "STOPPING" "Lcom/example/purgatory/purgatory/model/JobState;" (.ref b2)) (P5 : Exa Z h0 b2 "com/example/purgatory/purgatory/model/JobState") (P6 : Sta Z h0 "com/example/purgatory/purgatory/model/JobState" "TERMINATING" "Lcom/example/purgatory/purgatory/model/JobState;" (.ref b3)) (P7 : Exa Z h0 b3 "com/example/purgatory/purgatory/model/JobState") (P8 : Sta Z h0 "com/example/purgatory/purgatory/model/JobState" "SUSPENDED" "Lcom/example/purgatory/purgatory/model/JobState;" (.ref b4)) (P9 : Exa Z h0 b4 "com/example/purgatory/purgatory/model/JobState") (P10 : Sta Z h0 "com/example/purgatory/purgatory/model/JobState" "RESUMED" "Lcom/example/purgatory/purgatory/model/JobState;" (.ref b5)) (P11 : Exa Z h0 b5 "com/example/purgatory/purgatory/model/JobState") (P12 : Sta Z h0 "com/example/purgatory/purgatory/model/JobState" "FAULTED" "Lcom/example/purgatory/purgatory/model/JobState;" (.ref b6)) (P13 : Exa Z h0 b6 "com/example/purgatory/purgatory/model/JobState") (P14 : Sta Z h0 "com/example/purgatory/purgatory/model/JobState" "SUCCESSFUL" "Lcom/example/purgatory/purgatory/model/JobState;" (.ref b7)) (P15 : Exa Z h0 b7 "com/example/purgatory/purgatory/model/JobState") (P16 : Sta Z h0 "com/example/purgatory/purgatory/model/JobState" "STOPPED" "Lcom/example/purgatory/purgatory/model/JobState;" (.ref b8)) (P17 : Exa Z h0 b8 "com/example/purgatory/purgatory/model/JobState") (NE_b0_b4 : b0 ≠ b4) (NE_b0_b5 : b0 ≠ b5) (NE_b1_b4 : b1 ≠ b4) (NE_b1_b5 : b1 ≠ b5) (NE_b2_b4 : b2 ≠ b4) (NE_b2_b5 : b2 ≠ b5) (NE_b3_b4 : b3 ≠ b4) (NE_b3_b5 : b3 ≠ b5) (NE_b6_b4 : b6 ≠ b4) (NE_b6_b5 : b6 ≠ b5) (NE_b7_b4 : b7 ≠ b4) (NE_b7_b5 : b7 ≠ b5) (NE_b8_b4 : b8 ≠ b4) (NE_b8_b5 : b8 ≠ b5) :
    MetFree l x (head1 (Jvm.Cond.code x code maxLocals ret :: ws) room_1) (fun az Uz => az = #[(.int kk)] ∧ Z.Warmed39 Uz.vm ∧ Uz.heap = h0) (fun _ _ _ _ _ => True) (fun _ U o U' => ∃ v L, o = .returned v ∧ own_Qlaw Z kk b0 b1 b2 b3 b4 b5 b6 b7 b8 h0 n0 v U'.heap L ∧ FrameEnd U o U' L room_1.cells room_1.slots) := by
  refine MetFree.of_bodySF (plainFor_of_name own_pn_com_example_purgatory_purgatory_model_JobStateHasBeenSuspendedPinLaw) hisR ?_
  intro p e s m args below meth c s₁ Bd hml0 hP hK
  obtain ⟨rfl, hZ, hh⟩ := hP
  have hx := Bd.exec
  have hby := Bd.bytes
  have hml : c.maxLocals = 4 := hml0
  have hown : s.vm.findClass "com/example/purgatory/purgatory/model/JobStateHasBeenSuspendedPinLaw" = some m.cls := findClass_of_methodNamed Bd.named
  have hnm := (name_of_methodNamed Bd.named Bd.method).1
  have hlk : meth.locks = false := BodyLoose.notSynchronized Bd
  have hret := Bd.returns
  have X0 : Stand p l e room_1 s m #[(.int kk)] below meth c s₁ [] 0 0 := Stand.of_body Bd
  have e0 : s₁.heap = h0 := by rw [← hh, Bd.state]; rfl
  have N0 := Fr.nil n0
  show own_E p e below (own_K s (own_Qlaw Z kk b0 b1 b2 b3 b4 b5 b6 b7 b8 h0 n0) room_1.cells room_1.slots) s₁ (entryFrame m #[(.int kk)] maxLocals)
  refine own_S (mkF m 0 #[iv kk, .unset, .unset, .unset] []) (fun _ k => castTop (own_ef_law m (kk)) k) ?_
  refine own_S (mkF m 1 #[iv kk, .unset, .unset, .unset] [(.int kk)]) (fun _ k => XS.iloadN X0.here hx rfl (hb hby at_0) rfl k) ?_
  refine own_S (mkF m 3 #[iv kk, .unset, .unset, .unset] [(.int 2147483647), (.int kk)]) (fun _ k => X0.ldcInt hx hown (mvT hZ (own_g hw (i := 0) rfl)) (g := (mkF m 1 #[iv kk, .unset, .unset, .unset] [(.int kk)])) rfl (hb hby at_1) _ k) ?_
  refine own_S (mkF m 4 #[iv kk, .unset, .unset, .unset] [(.int (kk &&& (2147483647 : Int32)))]) (fun _ k => XS.iand X0.here hx rfl (hb hby at_3) rfl k) ?_
  refine own_S (mkF m 6 #[iv kk, .unset, .unset, .unset] [(.int 9), (.int (kk &&& (2147483647 : Int32)))]) (fun _ k => XS.bipush X0.here hx rfl (hb hby at_4) k) ?_
  refine own_S (mkF m 7 #[iv kk, .unset, .unset, .unset] [(.int ((kk &&& (2147483647 : Int32)) % (9 : Int32)))]) (fun _ k => iremM X0 hx rfl (hb hby at_6) rfl (by decide) k) ?_
  refine own_S (mkF m 8 #[iv kk, iv ((kk &&& (2147483647 : Int32)) % (9 : Int32)), .unset, .unset] []) (fun _ k => XS.istoreN X0.here hx rfl (hb hby at_7) rfl (l' := #[iv kk, iv ((kk &&& (2147483647 : Int32)) % (9 : Int32)), .unset, .unset]) rfl k) ?_
  obtain ⟨ii, h_ii⟩ : ∃ z : Int32, z = ((kk &&& (2147483647 : Int32)) % (9 : Int32)) := ⟨_, rfl⟩
  refine own_S (T' := s₁) (mkF m 8 #[iv kk, iv ii, .unset, .unset] []) (fun _ k => by subst h_ii; exact k) ?_
  have o_ii := own_m9 kk ii h_ii
  refine own_S (mkF m 10 #[iv kk, iv ii, .unset, .unset] [(.int 9)]) (fun _ k => XS.bipush X0.here hx rfl (hb hby at_8) k) ?_
  obtain ⟨T1, h1, cA1, X1, e1, E1, A1, O1, st1⟩ := newR X0 hx hZ hown (own_g hw (i := 1) rfl) (own_g hw (i := 2) rfl) e0 (g := (mkF m 10 #[iv kk, iv ii, .unset, .unset] [(.int 9)])) rfl (hb hby at_10) rfl (by decide) (cap := 9) (by decide) (by decide) (by decide) (by decide)
  obtain ⟨ar, g1⟩ : ∃ z, z = h0.size := ⟨_, rfl⟩
  rw [← g1] at A1 st1
  have n2 : b0 ≠ ar := Nat.ne_of_lt (Nat.lt_of_lt_of_eq P1.lt g1.symm)
  have n3 : b1 ≠ ar := Nat.ne_of_lt (Nat.lt_of_lt_of_eq P3.lt g1.symm)
  have n4 : b2 ≠ ar := Nat.ne_of_lt (Nat.lt_of_lt_of_eq P5.lt g1.symm)
  have n5 : b3 ≠ ar := Nat.ne_of_lt (Nat.lt_of_lt_of_eq P7.lt g1.symm)
  have n6 : b4 ≠ ar := Nat.ne_of_lt (Nat.lt_of_lt_of_eq P9.lt g1.symm)
  have n7 : b5 ≠ ar := Nat.ne_of_lt (Nat.lt_of_lt_of_eq P11.lt g1.symm)
  have n8 : b6 ≠ ar := Nat.ne_of_lt (Nat.lt_of_lt_of_eq P13.lt g1.symm)
  have n9 : b7 ≠ ar := Nat.ne_of_lt (Nat.lt_of_lt_of_eq P15.lt g1.symm)
  have n10 : b8 ≠ ar := Nat.ne_of_lt (Nat.lt_of_lt_of_eq P17.lt g1.symm)
  have ge_ar : n0 ≤ ar := Nat.le_trans Z0 (Nat.le_of_eq g1.symm)
  have F11 := P0.ext E1
  have F12 := P1.ext E1
  have F13 := P2.ext E1
  have F14 := P3.ext E1
  have F15 := P4.ext E1
  have F16 := P5.ext E1
  have F17 := P6.ext E1
  have F18 := P7.ext E1
  have F19 := P8.ext E1
  have F20 := P9.ext E1
  have F21 := P10.ext E1
  have F22 := P11.ext E1
  have F23 := P12.ext E1
  have F24 := P13.ext E1
  have F25 := P14.ext E1
  have F26 := P15.ext E1
  have F27 := P16.ext E1
  have F28 := P17.ext E1
  have Z1 : n0 ≤ h1.size := Nat.le_trans Z0 E1.1
  have F29 : own_Ar Z h1 ar cA1 (.object "com/example/purgatory/purgatory/model/JobState") [.null, .null, .null, .null, .null, .null, .null, .null, .null] := own_Ar.new A1 rfl
  refine own_S (mkF m 13 #[iv kk, iv ii, .unset, .unset] [(.ref ar)]) st1 ?_
  refine own_S (mkF m 14 #[iv kk, iv ii, .unset, .unset] [(.ref ar), (.ref ar)]) (fun _ k => XS.dup X1.here hx rfl (hb hby at_13) rfl rfl k) ?_
  refine own_S (mkF m 15 #[iv kk, iv ii, .unset, .unset] [(.int 0), (.ref ar), (.ref ar)]) (fun _ k => XS.iconst X1.here hx rfl (hb hby at_14) k) ?_
  obtain ⟨T30, X30, e30, st30⟩ := getS (host := "") X1 hx hZ hown (own_g hw (i := 3) rfl) Via.refl e1 F11 (g := (mkF m 15 #[iv kk, iv ii, .unset, .unset] [(.int 0), (.ref ar), (.ref ar)])) rfl (hb hby at_15)
  refine own_S (mkF m 18 #[iv kk, iv ii, .unset, .unset] [(.ref b0), (.int 0), (.ref ar), (.ref ar)]) st30 ?_
  obtain ⟨T31, h31, X31, e31, W31, AR31, st31⟩ := own_stR (j := (0 : Int32)) X30 hx hZ e30 F29 O1 (Ins.self F12) (by decide) (show (0 : Nat) < 9 from by decide) (g := (mkF m 18 #[iv kk, iv ii, .unset, .unset] [(.ref b0), (.int 0), (.ref ar), (.ref ar)])) rfl rfl (hb hby at_18)
  refine own_S (mkF m 19 #[iv kk, iv ii, .unset, .unset] [(.ref ar)]) st31 ?_
  have F32 := F11.wr W31
  have F33 := F12.wr W31
  have F34 := F13.wr W31
  have F35 := F14.wr W31
  have F36 := F15.wr W31
  have F37 := F16.wr W31
  have F38 := F17.wr W31
  have F39 := F18.wr W31
  have F40 := F19.wr W31
  have F41 := F20.wr W31
  have F42 := F21.wr W31
  have F43 := F22.wr W31
  have F44 := F23.wr W31
  have F45 := F24.wr W31
  have F46 := F25.wr W31
  have F47 := F26.wr W31
  have F48 := F27.wr W31
  have F49 := F28.wr W31
  have F50 : own_Ar Z h31 ar cA1 (.object "com/example/purgatory/purgatory/model/JobState") [(.ref b0), .null, .null, .null, .null, .null, .null, .null, .null] := AR31
  have N31 := Fr.snoc X31 N0 ge_ar
  have Z31 : n0 ≤ h31.size := by rw [Wr.size W31]; exact Z1
  refine own_S (mkF m 20 #[iv kk, iv ii, .unset, .unset] [(.ref ar), (.ref ar)]) (fun _ k => XS.dup X31.here hx rfl (hb hby at_19) rfl rfl k) ?_
  refine own_S (mkF m 21 #[iv kk, iv ii, .unset, .unset] [(.int 1), (.ref ar), (.ref ar)]) (fun _ k => XS.iconst X31.here hx rfl (hb hby at_20) k) ?_
  obtain ⟨T51, X51, e51, st51⟩ := getS (host := "") X31 hx hZ hown (own_g hw (i := 7) rfl) Via.refl e31 F34 (g := (mkF m 21 #[iv kk, iv ii, .unset, .unset] [(.int 1), (.ref ar), (.ref ar)])) rfl (hb hby at_21)
  refine own_S (mkF m 24 #[iv kk, iv ii, .unset, .unset] [(.ref b1), (.int 1), (.ref ar), (.ref ar)]) st51 ?_
  obtain ⟨T52, h52, X52, e52, W52, AR52, st52⟩ := own_stR (j := (1 : Int32)) X51 hx hZ e51 F50 O1 (Ins.self F35) (by decide) (show (1 : Nat) < 9 from by decide) (g := (mkF m 24 #[iv kk, iv ii, .unset, .unset] [(.ref b1), (.int 1), (.ref ar), (.ref ar)])) rfl rfl (hb hby at_24)
  refine own_S (mkF m 25 #[iv kk, iv ii, .unset, .unset] [(.ref ar)]) st52 ?_
  have F53 := F32.wr W52
  have F54 := F33.wr W52
  have F55 := F34.wr W52
  have F56 := F35.wr W52
  have F57 := F36.wr W52
  have F58 := F37.wr W52
  have F59 := F38.wr W52
  have F60 := F39.wr W52
  have F61 := F40.wr W52
  have F62 := F41.wr W52
  have F63 := F42.wr W52
  have F64 := F43.wr W52
  have F65 := F44.wr W52
  have F66 := F45.wr W52
  have F67 := F46.wr W52
  have F68 := F47.wr W52
  have F69 := F48.wr W52
  have F70 := F49.wr W52
  have F71 : own_Ar Z h52 ar cA1 (.object "com/example/purgatory/purgatory/model/JobState") [(.ref b0), (.ref b1), .null, .null, .null, .null, .null, .null, .null] := AR52
  have N52 := Fr.snoc X52 N31 ge_ar
  have Z52 : n0 ≤ h52.size := by rw [Wr.size W52]; exact Z31
  refine own_S (mkF m 26 #[iv kk, iv ii, .unset, .unset] [(.ref ar), (.ref ar)]) (fun _ k => XS.dup X52.here hx rfl (hb hby at_25) rfl rfl k) ?_
  refine own_S (mkF m 27 #[iv kk, iv ii, .unset, .unset] [(.int 2), (.ref ar), (.ref ar)]) (fun _ k => XS.iconst X52.here hx rfl (hb hby at_26) k) ?_
  obtain ⟨T72, X72, e72, st72⟩ := getS (host := "") X52 hx hZ hown (own_g hw (i := 9) rfl) Via.refl e52 F57 (g := (mkF m 27 #[iv kk, iv ii, .unset, .unset] [(.int 2), (.ref ar), (.ref ar)])) rfl (hb hby at_27)
  refine own_S (mkF m 30 #[iv kk, iv ii, .unset, .unset] [(.ref b2), (.int 2), (.ref ar), (.ref ar)]) st72 ?_
  obtain ⟨T73, h73, X73, e73, W73, AR73, st73⟩ := own_stR (j := (2 : Int32)) X72 hx hZ e72 F71 O1 (Ins.self F58) (by decide) (show (2 : Nat) < 9 from by decide) (g := (mkF m 30 #[iv kk, iv ii, .unset, .unset] [(.ref b2), (.int 2), (.ref ar), (.ref ar)])) rfl rfl (hb hby at_30)
  refine own_S (mkF m 31 #[iv kk, iv ii, .unset, .unset] [(.ref ar)]) st73 ?_
  have F74 := F53.wr W73
  have F75 := F54.wr W73
  have F76 := F55.wr W73
  have F77 := F56.wr W73
  have F78 := F57.wr W73
  have F79 := F58.wr W73
  have F80 := F59.wr W73
  have F81 := F60.wr W73
  have F82 := F61.wr W73
  have F83 := F62.wr W73
  have F84 := F63.wr W73
  have F85 := F64.wr W73
  have F86 := F65.wr W73
  have F87 := F66.wr W73
  have F88 := F67.wr W73
  have F89 := F68.wr W73
  have F90 := F69.wr W73
  have F91 := F70.wr W73
  have F92 : own_Ar Z h73 ar cA1 (.object "com/example/purgatory/purgatory/model/JobState") [(.ref b0), (.ref b1), (.ref b2), .null, .null, .null, .null, .null, .null] := AR73
  have N73 := Fr.snoc X73 N52 ge_ar
  have Z73 : n0 ≤ h73.size := by rw [Wr.size W73]; exact Z52
  refine own_S (mkF m 32 #[iv kk, iv ii, .unset, .unset] [(.ref ar), (.ref ar)]) (fun _ k => XS.dup X73.here hx rfl (hb hby at_31) rfl rfl k) ?_
  refine own_S (mkF m 33 #[iv kk, iv ii, .unset, .unset] [(.int 3), (.ref ar), (.ref ar)]) (fun _ k => XS.iconst X73.here hx rfl (hb hby at_32) k) ?_
  obtain ⟨T93, X93, e93, st93⟩ := getS (host := "") X73 hx hZ hown (own_g hw (i := 11) rfl) Via.refl e73 F80 (g := (mkF m 33 #[iv kk, iv ii, .unset, .unset] [(.int 3), (.ref ar), (.ref ar)])) rfl (hb hby at_33)
  refine own_S (mkF m 36 #[iv kk, iv ii, .unset, .unset] [(.ref b3), (.int 3), (.ref ar), (.ref ar)]) st93 ?_
  obtain ⟨T94, h94, X94, e94, W94, AR94, st94⟩ := own_stR (j := (3 : Int32)) X93 hx hZ e93 F92 O1 (Ins.self F81) (by decide) (show (3 : Nat) < 9 from by decide) (g := (mkF m 36 #[iv kk, iv ii, .unset, .unset] [(.ref b3), (.int 3), (.ref ar), (.ref ar)])) rfl rfl (hb hby at_36)
  refine own_S (mkF m 37 #[iv kk, iv ii, .unset, .unset] [(.ref ar)]) st94 ?_
  have F95 := F74.wr W94
  have F96 := F75.wr W94
  have F97 := F76.wr W94
  have F98 := F77.wr W94
  have F99 := F78.wr W94
  have F100 := F79.wr W94
  have F101 := F80.wr W94
  have F102 := F81.wr W94
  have F103 := F82.wr W94
  have F104 := F83.wr W94
  have F105 := F84.wr W94
  have F106 := F85.wr W94
  have F107 := F86.wr W94
  have F108 := F87.wr W94
  have F109 := F88.wr W94
  have F110 := F89.wr W94
  have F111 := F90.wr W94
  have F112 := F91.wr W94
  have F113 : own_Ar Z h94 ar cA1 (.object "com/example/purgatory/purgatory/model/JobState") [(.ref b0), (.ref b1), (.ref b2), (.ref b3), .null, .null, .null, .null, .null] := AR94
  have N94 := Fr.snoc X94 N73 ge_ar
  have Z94 : n0 ≤ h94.size := by rw [Wr.size W94]; exact Z73
  refine own_S (mkF m 38 #[iv kk, iv ii, .unset, .unset] [(.ref ar), (.ref ar)]) (fun _ k => XS.dup X94.here hx rfl (hb hby at_37) rfl rfl k) ?_
  refine own_S (mkF m 39 #[iv kk, iv ii, .unset, .unset] [(.int 4), (.ref ar), (.ref ar)]) (fun _ k => XS.iconst X94.here hx rfl (hb hby at_38) k) ?_
  obtain ⟨T114, X114, e114, st114⟩ := getS (host := "") X94 hx hZ hown (own_g hw (i := 13) rfl) Via.refl e94 F103 (g := (mkF m 39 #[iv kk, iv ii, .unset, .unset] [(.int 4), (.ref ar), (.ref ar)])) rfl (hb hby at_39)
  refine own_S (mkF m 42 #[iv kk, iv ii, .unset, .unset] [(.ref b4), (.int 4), (.ref ar), (.ref ar)]) st114 ?_
  obtain ⟨T115, h115, X115, e115, W115, AR115, st115⟩ := own_stR (j := (4 : Int32)) X114 hx hZ e114 F113 O1 (Ins.self F104) (by decide) (show (4 : Nat) < 9 from by decide) (g := (mkF m 42 #[iv kk, iv ii, .unset, .unset] [(.ref b4), (.int 4), (.ref ar), (.ref ar)])) rfl rfl (hb hby at_42)
  refine own_S (mkF m 43 #[iv kk, iv ii, .unset, .unset] [(.ref ar)]) st115 ?_
  have F116 := F95.wr W115
  have F117 := F96.wr W115
  have F118 := F97.wr W115
  have F119 := F98.wr W115
  have F120 := F99.wr W115
  have F121 := F100.wr W115
  have F122 := F101.wr W115
  have F123 := F102.wr W115
  have F124 := F103.wr W115
  have F125 := F104.wr W115
  have F126 := F105.wr W115
  have F127 := F106.wr W115
  have F128 := F107.wr W115
  have F129 := F108.wr W115
  have F130 := F109.wr W115
  have F131 := F110.wr W115
  have F132 := F111.wr W115
  have F133 := F112.wr W115
  have F134 : own_Ar Z h115 ar cA1 (.object "com/example/purgatory/purgatory/model/JobState") [(.ref b0), (.ref b1), (.ref b2), (.ref b3), (.ref b4), .null, .null, .null, .null] := AR115
  have N115 := Fr.snoc X115 N94 ge_ar
  have Z115 : n0 ≤ h115.size := by rw [Wr.size W115]; exact Z94
  refine own_S (mkF m 44 #[iv kk, iv ii, .unset, .unset] [(.ref ar), (.ref ar)]) (fun _ k => XS.dup X115.here hx rfl (hb hby at_43) rfl rfl k) ?_
  refine own_S (mkF m 45 #[iv kk, iv ii, .unset, .unset] [(.int 5), (.ref ar), (.ref ar)]) (fun _ k => XS.iconst X115.here hx rfl (hb hby at_44) k) ?_
  obtain ⟨T135, X135, e135, st135⟩ := getS (host := "") X115 hx hZ hown (own_g hw (i := 15) rfl) Via.refl e115 F126 (g := (mkF m 45 #[iv kk, iv ii, .unset, .unset] [(.int 5), (.ref ar), (.ref ar)])) rfl (hb hby at_45)
  refine own_S (mkF m 48 #[iv kk, iv ii, .unset, .unset] [(.ref b5), (.int 5), (.ref ar), (.ref ar)]) st135 ?_
  obtain ⟨T136, h136, X136, e136, W136, AR136, st136⟩ := own_stR (j := (5 : Int32)) X135 hx hZ e135 F134 O1 (Ins.self F127) (by decide) (show (5 : Nat) < 9 from by decide) (g := (mkF m 48 #[iv kk, iv ii, .unset, .unset] [(.ref b5), (.int 5), (.ref ar), (.ref ar)])) rfl rfl (hb hby at_48)
  refine own_S (mkF m 49 #[iv kk, iv ii, .unset, .unset] [(.ref ar)]) st136 ?_
  have F137 := F116.wr W136
  have F138 := F117.wr W136
  have F139 := F118.wr W136
  have F140 := F119.wr W136
  have F141 := F120.wr W136
  have F142 := F121.wr W136
  have F143 := F122.wr W136
  have F144 := F123.wr W136
  have F145 := F124.wr W136
  have F146 := F125.wr W136
  have F147 := F126.wr W136
  have F148 := F127.wr W136
  have F149 := F128.wr W136
  have F150 := F129.wr W136
  have F151 := F130.wr W136
  have F152 := F131.wr W136
  have F153 := F132.wr W136
  have F154 := F133.wr W136
  have F155 : own_Ar Z h136 ar cA1 (.object "com/example/purgatory/purgatory/model/JobState") [(.ref b0), (.ref b1), (.ref b2), (.ref b3), (.ref b4), (.ref b5), .null, .null, .null] := AR136
  have N136 := Fr.snoc X136 N115 ge_ar
  have Z136 : n0 ≤ h136.size := by rw [Wr.size W136]; exact Z115
  refine own_S (mkF m 50 #[iv kk, iv ii, .unset, .unset] [(.ref ar), (.ref ar)]) (fun _ k => XS.dup X136.here hx rfl (hb hby at_49) rfl rfl k) ?_
  refine own_S (mkF m 52 #[iv kk, iv ii, .unset, .unset] [(.int 6), (.ref ar), (.ref ar)]) (fun _ k => XS.bipush X136.here hx rfl (hb hby at_50) k) ?_
  obtain ⟨T156, X156, e156, st156⟩ := getS (host := "") X136 hx hZ hown (own_g hw (i := 17) rfl) Via.refl e136 F149 (g := (mkF m 52 #[iv kk, iv ii, .unset, .unset] [(.int 6), (.ref ar), (.ref ar)])) rfl (hb hby at_52)
  refine own_S (mkF m 55 #[iv kk, iv ii, .unset, .unset] [(.ref b6), (.int 6), (.ref ar), (.ref ar)]) st156 ?_
  obtain ⟨T157, h157, X157, e157, W157, AR157, st157⟩ := own_stR (j := (6 : Int32)) X156 hx hZ e156 F155 O1 (Ins.self F150) (by decide) (show (6 : Nat) < 9 from by decide) (g := (mkF m 55 #[iv kk, iv ii, .unset, .unset] [(.ref b6), (.int 6), (.ref ar), (.ref ar)])) rfl rfl (hb hby at_55)
  refine own_S (mkF m 56 #[iv kk, iv ii, .unset, .unset] [(.ref ar)]) st157 ?_
  have F158 := F137.wr W157
  have F159 := F138.wr W157
  have F160 := F139.wr W157
  have F161 := F140.wr W157
  have F162 := F141.wr W157
  have F163 := F142.wr W157
  have F164 := F143.wr W157
  have F165 := F144.wr W157
  have F166 := F145.wr W157
  have F167 := F146.wr W157
  have F168 := F147.wr W157
  have F169 := F148.wr W157
  have F170 := F149.wr W157
  have F171 := F150.wr W157
  have F172 := F151.wr W157
  have F173 := F152.wr W157
  have F174 := F153.wr W157
  have F175 := F154.wr W157
  have F176 : own_Ar Z h157 ar cA1 (.object "com/example/purgatory/purgatory/model/JobState") [(.ref b0), (.ref b1), (.ref b2), (.ref b3), (.ref b4), (.ref b5), (.ref b6), .null, .null] := AR157
  have N157 := Fr.snoc X157 N136 ge_ar
  have Z157 : n0 ≤ h157.size := by rw [Wr.size W157]; exact Z136
  refine own_S (mkF m 57 #[iv kk, iv ii, .unset, .unset] [(.ref ar), (.ref ar)]) (fun _ k => XS.dup X157.here hx rfl (hb hby at_56) rfl rfl k) ?_
  refine own_S (mkF m 59 #[iv kk, iv ii, .unset, .unset] [(.int 7), (.ref ar), (.ref ar)]) (fun _ k => XS.bipush X157.here hx rfl (hb hby at_57) k) ?_
  obtain ⟨T177, X177, e177, st177⟩ := getS (host := "") X157 hx hZ hown (own_g hw (i := 19) rfl) Via.refl e157 F172 (g := (mkF m 59 #[iv kk, iv ii, .unset, .unset] [(.int 7), (.ref ar), (.ref ar)])) rfl (hb hby at_59)
  refine own_S (mkF m 62 #[iv kk, iv ii, .unset, .unset] [(.ref b7), (.int 7), (.ref ar), (.ref ar)]) st177 ?_
  obtain ⟨T178, h178, X178, e178, W178, AR178, st178⟩ := own_stR (j := (7 : Int32)) X177 hx hZ e177 F176 O1 (Ins.self F173) (by decide) (show (7 : Nat) < 9 from by decide) (g := (mkF m 62 #[iv kk, iv ii, .unset, .unset] [(.ref b7), (.int 7), (.ref ar), (.ref ar)])) rfl rfl (hb hby at_62)
  refine own_S (mkF m 63 #[iv kk, iv ii, .unset, .unset] [(.ref ar)]) st178 ?_
  have F179 := F158.wr W178
  have F180 := F159.wr W178
  have F181 := F160.wr W178
  have F182 := F161.wr W178
  have F183 := F162.wr W178
  have F184 := F163.wr W178
  have F185 := F164.wr W178
  have F186 := F165.wr W178
  have F187 := F166.wr W178
  have F188 := F167.wr W178
  have F189 := F168.wr W178
  have F190 := F169.wr W178
  have F191 := F170.wr W178
  have F192 := F171.wr W178
  have F193 := F172.wr W178
  have F194 := F173.wr W178
  have F195 := F174.wr W178
  have F196 := F175.wr W178
  have F197 : own_Ar Z h178 ar cA1 (.object "com/example/purgatory/purgatory/model/JobState") [(.ref b0), (.ref b1), (.ref b2), (.ref b3), (.ref b4), (.ref b5), (.ref b6), (.ref b7), .null] := AR178
  have N178 := Fr.snoc X178 N157 ge_ar
  have Z178 : n0 ≤ h178.size := by rw [Wr.size W178]; exact Z157
  refine own_S (mkF m 64 #[iv kk, iv ii, .unset, .unset] [(.ref ar), (.ref ar)]) (fun _ k => XS.dup X178.here hx rfl (hb hby at_63) rfl rfl k) ?_
  refine own_S (mkF m 66 #[iv kk, iv ii, .unset, .unset] [(.int 8), (.ref ar), (.ref ar)]) (fun _ k => XS.bipush X178.here hx rfl (hb hby at_64) k) ?_
  obtain ⟨T198, X198, e198, st198⟩ := getS (host := "") X178 hx hZ hown (own_g hw (i := 21) rfl) Via.refl e178 F195 (g := (mkF m 66 #[iv kk, iv ii, .unset, .unset] [(.int 8), (.ref ar), (.ref ar)])) rfl (hb hby at_66)
  refine own_S (mkF m 69 #[iv kk, iv ii, .unset, .unset] [(.ref b8), (.int 8), (.ref ar), (.ref ar)]) st198 ?_
  obtain ⟨T199, h199, X199, e199, W199, AR199, st199⟩ := own_stR (j := (8 : Int32)) X198 hx hZ e198 F197 O1 (Ins.self F196) (by decide) (show (8 : Nat) < 9 from by decide) (g := (mkF m 69 #[iv kk, iv ii, .unset, .unset] [(.ref b8), (.int 8), (.ref ar), (.ref ar)])) rfl rfl (hb hby at_69)
  refine own_S (mkF m 70 #[iv kk, iv ii, .unset, .unset] [(.ref ar)]) st199 ?_
  have F200 := F179.wr W199
  have F201 := F180.wr W199
  have F202 := F181.wr W199
  have F203 := F182.wr W199
  have F204 := F183.wr W199
  have F205 := F184.wr W199
  have F206 := F185.wr W199
  have F207 := F186.wr W199
  have F208 := F187.wr W199
  have F209 := F188.wr W199
  have F210 := F189.wr W199
  have F211 := F190.wr W199
  have F212 := F191.wr W199
  have F213 := F192.wr W199
  have F214 := F193.wr W199
  have F215 := F194.wr W199
  have F216 := F195.wr W199
  have F217 := F196.wr W199
  have F218 : own_Ar Z h199 ar cA1 (.object "com/example/purgatory/purgatory/model/JobState") [(.ref b0), (.ref b1), (.ref b2), (.ref b3), (.ref b4), (.ref b5), (.ref b6), (.ref b7), (.ref b8)] := AR199
  have N199 := Fr.snoc X199 N178 ge_ar
  have Z199 : n0 ≤ h199.size := by rw [Wr.size W199]; exact Z178
  refine own_S (mkF m 71 #[iv kk, iv ii, rv ar, .unset] []) (fun _ k => XS.astoreN X199.here hx rfl (hb hby at_70) rfl rfl (l' := #[iv kk, iv ii, rv ar, .unset]) rfl k) ?_
  refine own_S (mkF m 73 #[iv kk, iv ii, rv ar, .unset] [(.int 9)]) (fun _ k => XS.bipush X199.here hx rfl (hb hby at_71) k) ?_
  obtain ⟨T219, h219, cA219, X219, e219, E219, A219, st219⟩ := newP X199 hx hZ (own_g hw (i := 23) rfl) e199 (g := (mkF m 73 #[iv kk, iv ii, rv ar, .unset] [(.int 9)])) rfl (hb hby at_73) rfl (by decide) (cap := 9) (by decide) (by decide) (by decide) (by decide)
  obtain ⟨br, g219⟩ : ∃ z, z = h199.size := ⟨_, rfl⟩
  rw [← g219] at A219 st219
  have n220 : b0 ≠ br := Nat.ne_of_lt (Nat.lt_of_lt_of_eq F201.lt g219.symm)
  have n221 : b1 ≠ br := Nat.ne_of_lt (Nat.lt_of_lt_of_eq F203.lt g219.symm)
  have n222 : b2 ≠ br := Nat.ne_of_lt (Nat.lt_of_lt_of_eq F205.lt g219.symm)
  have n223 : b3 ≠ br := Nat.ne_of_lt (Nat.lt_of_lt_of_eq F207.lt g219.symm)
  have n224 : b4 ≠ br := Nat.ne_of_lt (Nat.lt_of_lt_of_eq F209.lt g219.symm)
  have n225 : b5 ≠ br := Nat.ne_of_lt (Nat.lt_of_lt_of_eq F211.lt g219.symm)
  have n226 : b6 ≠ br := Nat.ne_of_lt (Nat.lt_of_lt_of_eq F213.lt g219.symm)
  have n227 : b7 ≠ br := Nat.ne_of_lt (Nat.lt_of_lt_of_eq F215.lt g219.symm)
  have n228 : b8 ≠ br := Nat.ne_of_lt (Nat.lt_of_lt_of_eq F217.lt g219.symm)
  have n229 : ar ≠ br := Nat.ne_of_lt (Nat.lt_of_lt_of_eq F218.lt g219.symm)
  have ge_br : n0 ≤ br := Nat.le_trans Z199 (Nat.le_of_eq g219.symm)
  have F230 := F200.ext E219
  have F231 := F201.ext E219
  have F232 := F202.ext E219
  have F233 := F203.ext E219
  have F234 := F204.ext E219
  have F235 := F205.ext E219
  have F236 := F206.ext E219
  have F237 := F207.ext E219
  have F238 := F208.ext E219
  have F239 := F209.ext E219
  have F240 := F210.ext E219
  have F241 := F211.ext E219
  have F242 := F212.ext E219
  have F243 := F213.ext E219
  have F244 := F214.ext E219
  have F245 := F215.ext E219
  have F246 := F216.ext E219
  have F247 := F217.ext E219
  have F248 := F218.ext E219
  have Z219 : n0 ≤ h219.size := Nat.le_trans Z199 E219.1
  have F249 : own_Ar Z h219 br cA219 .boolean [(.int (0 : Int32)), (.int (0 : Int32)), (.int (0 : Int32)), (.int (0 : Int32)), (.int (0 : Int32)), (.int (0 : Int32)), (.int (0 : Int32)), (.int (0 : Int32)), (.int (0 : Int32))] := own_Ar.new A219 rfl
  refine own_S (mkF m 75 #[iv kk, iv ii, rv ar, .unset] [(.ref br)]) st219 ?_
  refine own_S (mkF m 76 #[iv kk, iv ii, rv ar, .unset] [(.ref br), (.ref br)]) (fun _ k => XS.dup X219.here hx rfl (hb hby at_75) rfl rfl k) ?_
  refine own_S (mkF m 77 #[iv kk, iv ii, rv ar, .unset] [(.int 0), (.ref br), (.ref br)]) (fun _ k => XS.iconst X219.here hx rfl (hb hby at_76) k) ?_
  refine own_S (mkF m 78 #[iv kk, iv ii, rv ar, .unset] [(.int 0), (.int 0), (.ref br), (.ref br)]) (fun _ k => XS.iconst X219.here hx rfl (hb hby at_77) k) ?_
  obtain ⟨T250, h250, X250, e250, W250, AR250, st250⟩ := own_stZ (j := (0 : Int32)) X219 hx hZ e219 F249 (by decide) (show (0 : Nat) < 9 from by decide) (g := (mkF m 78 #[iv kk, iv ii, rv ar, .unset] [(.int 0), (.int 0), (.ref br), (.ref br)])) rfl rfl (hb hby at_78)
  refine own_S (mkF m 79 #[iv kk, iv ii, rv ar, .unset] [(.ref br)]) st250 ?_
  have F251 := F230.wr W250
  have F252 := F231.wr W250
  have F253 := F232.wr W250
  have F254 := F233.wr W250
  have F255 := F234.wr W250
  have F256 := F235.wr W250
  have F257 := F236.wr W250
  have F258 := F237.wr W250
  have F259 := F238.wr W250
  have F260 := F239.wr W250
  have F261 := F240.wr W250
  have F262 := F241.wr W250
  have F263 := F242.wr W250
  have F264 := F243.wr W250
  have F265 := F244.wr W250
  have F266 := F245.wr W250
  have F267 := F246.wr W250
  have F268 := F247.wr W250
  have F269 := F248.other W250 n229
  have F270 : own_Ar Z h250 br cA219 .boolean [(.int (0 : Int32)), (.int (0 : Int32)), (.int (0 : Int32)), (.int (0 : Int32)), (.int (0 : Int32)), (.int (0 : Int32)), (.int (0 : Int32)), (.int (0 : Int32)), (.int (0 : Int32))] := AR250
  have N250 := Fr.snoc X250 N199 ge_br
  have Z250 : n0 ≤ h250.size := by rw [Wr.size W250]; exact Z219
  refine own_S (mkF m 80 #[iv kk, iv ii, rv ar, .unset] [(.ref br), (.ref br)]) (fun _ k => XS.dup X250.here hx rfl (hb hby at_79) rfl rfl k) ?_
  refine own_S (mkF m 81 #[iv kk, iv ii, rv ar, .unset] [(.int 1), (.ref br), (.ref br)]) (fun _ k => XS.iconst X250.here hx rfl (hb hby at_80) k) ?_
  refine own_S (mkF m 82 #[iv kk, iv ii, rv ar, .unset] [(.int 0), (.int 1), (.ref br), (.ref br)]) (fun _ k => XS.iconst X250.here hx rfl (hb hby at_81) k) ?_
  obtain ⟨T271, h271, X271, e271, W271, AR271, st271⟩ := own_stZ (j := (1 : Int32)) X250 hx hZ e250 F270 (by decide) (show (1 : Nat) < 9 from by decide) (g := (mkF m 82 #[iv kk, iv ii, rv ar, .unset] [(.int 0), (.int 1), (.ref br), (.ref br)])) rfl rfl (hb hby at_82)
  refine own_S (mkF m 83 #[iv kk, iv ii, rv ar, .unset] [(.ref br)]) st271 ?_
  have F272 := F251.wr W271
  have F273 := F252.wr W271
  have F274 := F253.wr W271
  have F275 := F254.wr W271
  have F276 := F255.wr W271
  have F277 := F256.wr W271
  have F278 := F257.wr W271
  have F279 := F258.wr W271
  have F280 := F259.wr W271
  have F281 := F260.wr W271
  have F282 := F261.wr W271
  have F283 := F262.wr W271
  have F284 := F263.wr W271
  have F285 := F264.wr W271
  have F286 := F265.wr W271
  have F287 := F266.wr W271
  have F288 := F267.wr W271
  have F289 := F268.wr W271
  have F290 := F269.other W271 n229
  have F291 : own_Ar Z h271 br cA219 .boolean [(.int (0 : Int32)), (.int (0 : Int32)), (.int (0 : Int32)), (.int (0 : Int32)), (.int (0 : Int32)), (.int (0 : Int32)), (.int (0 : Int32)), (.int (0 : Int32)), (.int (0 : Int32))] := AR271
  have N271 := Fr.snoc X271 N250 ge_br
  have Z271 : n0 ≤ h271.size := by rw [Wr.size W271]; exact Z250
  refine own_S (mkF m 84 #[iv kk, iv ii, rv ar, .unset] [(.ref br), (.ref br)]) (fun _ k => XS.dup X271.here hx rfl (hb hby at_83) rfl rfl k) ?_
  refine own_S (mkF m 85 #[iv kk, iv ii, rv ar, .unset] [(.int 2), (.ref br), (.ref br)]) (fun _ k => XS.iconst X271.here hx rfl (hb hby at_84) k) ?_
  refine own_S (mkF m 86 #[iv kk, iv ii, rv ar, .unset] [(.int 0), (.int 2), (.ref br), (.ref br)]) (fun _ k => XS.iconst X271.here hx rfl (hb hby at_85) k) ?_
  obtain ⟨T292, h292, X292, e292, W292, AR292, st292⟩ := own_stZ (j := (2 : Int32)) X271 hx hZ e271 F291 (by decide) (show (2 : Nat) < 9 from by decide) (g := (mkF m 86 #[iv kk, iv ii, rv ar, .unset] [(.int 0), (.int 2), (.ref br), (.ref br)])) rfl rfl (hb hby at_86)
  refine own_S (mkF m 87 #[iv kk, iv ii, rv ar, .unset] [(.ref br)]) st292 ?_
  have F293 := F272.wr W292
  have F294 := F273.wr W292
  have F295 := F274.wr W292
  have F296 := F275.wr W292
  have F297 := F276.wr W292
  have F298 := F277.wr W292
  have F299 := F278.wr W292
  have F300 := F279.wr W292
  have F301 := F280.wr W292
  have F302 := F281.wr W292
  have F303 := F282.wr W292
  have F304 := F283.wr W292
  have F305 := F284.wr W292
  have F306 := F285.wr W292
  have F307 := F286.wr W292
  have F308 := F287.wr W292
  have F309 := F288.wr W292
  have F310 := F289.wr W292
  have F311 := F290.other W292 n229
  have F312 : own_Ar Z h292 br cA219 .boolean [(.int (0 : Int32)), (.int (0 : Int32)), (.int (0 : Int32)), (.int (0 : Int32)), (.int (0 : Int32)), (.int (0 : Int32)), (.int (0 : Int32)), (.int (0 : Int32)), (.int (0 : Int32))] := AR292
  have N292 := Fr.snoc X292 N271 ge_br
  have Z292 : n0 ≤ h292.size := by rw [Wr.size W292]; exact Z271
  refine own_S (mkF m 88 #[iv kk, iv ii, rv ar, .unset] [(.ref br), (.ref br)]) (fun _ k => XS.dup X292.here hx rfl (hb hby at_87) rfl rfl k) ?_
  refine own_S (mkF m 89 #[iv kk, iv ii, rv ar, .unset] [(.int 3), (.ref br), (.ref br)]) (fun _ k => XS.iconst X292.here hx rfl (hb hby at_88) k) ?_
  refine own_S (mkF m 90 #[iv kk, iv ii, rv ar, .unset] [(.int 0), (.int 3), (.ref br), (.ref br)]) (fun _ k => XS.iconst X292.here hx rfl (hb hby at_89) k) ?_
  obtain ⟨T313, h313, X313, e313, W313, AR313, st313⟩ := own_stZ (j := (3 : Int32)) X292 hx hZ e292 F312 (by decide) (show (3 : Nat) < 9 from by decide) (g := (mkF m 90 #[iv kk, iv ii, rv ar, .unset] [(.int 0), (.int 3), (.ref br), (.ref br)])) rfl rfl (hb hby at_90)
  refine own_S (mkF m 91 #[iv kk, iv ii, rv ar, .unset] [(.ref br)]) st313 ?_
  have F314 := F293.wr W313
  have F315 := F294.wr W313
  have F316 := F295.wr W313
  have F317 := F296.wr W313
  have F318 := F297.wr W313
  have F319 := F298.wr W313
  have F320 := F299.wr W313
  have F321 := F300.wr W313
  have F322 := F301.wr W313
  have F323 := F302.wr W313
  have F324 := F303.wr W313
  have F325 := F304.wr W313
  have F326 := F305.wr W313
  have F327 := F306.wr W313
  have F328 := F307.wr W313
  have F329 := F308.wr W313
  have F330 := F309.wr W313
  have F331 := F310.wr W313
  have F332 := F311.other W313 n229
  have F333 : own_Ar Z h313 br cA219 .boolean [(.int (0 : Int32)), (.int (0 : Int32)), (.int (0 : Int32)), (.int (0 : Int32)), (.int (0 : Int32)), (.int (0 : Int32)), (.int (0 : Int32)), (.int (0 : Int32)), (.int (0 : Int32))] := AR313
  have N313 := Fr.snoc X313 N292 ge_br
  have Z313 : n0 ≤ h313.size := by rw [Wr.size W313]; exact Z292
  refine own_S (mkF m 92 #[iv kk, iv ii, rv ar, .unset] [(.ref br), (.ref br)]) (fun _ k => XS.dup X313.here hx rfl (hb hby at_91) rfl rfl k) ?_
  refine own_S (mkF m 93 #[iv kk, iv ii, rv ar, .unset] [(.int 4), (.ref br), (.ref br)]) (fun _ k => XS.iconst X313.here hx rfl (hb hby at_92) k) ?_
  refine own_S (mkF m 94 #[iv kk, iv ii, rv ar, .unset] [(.int 1), (.int 4), (.ref br), (.ref br)]) (fun _ k => XS.iconst X313.here hx rfl (hb hby at_93) k) ?_
  obtain ⟨T334, h334, X334, e334, W334, AR334, st334⟩ := own_stZ (j := (4 : Int32)) X313 hx hZ e313 F333 (by decide) (show (4 : Nat) < 9 from by decide) (g := (mkF m 94 #[iv kk, iv ii, rv ar, .unset] [(.int 1), (.int 4), (.ref br), (.ref br)])) rfl rfl (hb hby at_94)
  refine own_S (mkF m 95 #[iv kk, iv ii, rv ar, .unset] [(.ref br)]) st334 ?_
  have F335 := F314.wr W334
  have F336 := F315.wr W334
  have F337 := F316.wr W334
  have F338 := F317.wr W334
  have F339 := F318.wr W334
  have F340 := F319.wr W334
  have F341 := F320.wr W334
  have F342 := F321.wr W334
  have F343 := F322.wr W334
  have F344 := F323.wr W334
  have F345 := F324.wr W334
  have F346 := F325.wr W334
  have F347 := F326.wr W334
  have F348 := F327.wr W334
  have F349 := F328.wr W334
  have F350 := F329.wr W334
  have F351 := F330.wr W334
  have F352 := F331.wr W334
  have F353 := F332.other W334 n229
  have F354 : own_Ar Z h334 br cA219 .boolean [(.int (0 : Int32)), (.int (0 : Int32)), (.int (0 : Int32)), (.int (0 : Int32)), (.int (1 : Int32)), (.int (0 : Int32)), (.int (0 : Int32)), (.int (0 : Int32)), (.int (0 : Int32))] := AR334
  have N334 := Fr.snoc X334 N313 ge_br
  have Z334 : n0 ≤ h334.size := by rw [Wr.size W334]; exact Z313
  refine own_S (mkF m 96 #[iv kk, iv ii, rv ar, .unset] [(.ref br), (.ref br)]) (fun _ k => XS.dup X334.here hx rfl (hb hby at_95) rfl rfl k) ?_
  refine own_S (mkF m 97 #[iv kk, iv ii, rv ar, .unset] [(.int 5), (.ref br), (.ref br)]) (fun _ k => XS.iconst X334.here hx rfl (hb hby at_96) k) ?_
  refine own_S (mkF m 98 #[iv kk, iv ii, rv ar, .unset] [(.int 1), (.int 5), (.ref br), (.ref br)]) (fun _ k => XS.iconst X334.here hx rfl (hb hby at_97) k) ?_
  obtain ⟨T355, h355, X355, e355, W355, AR355, st355⟩ := own_stZ (j := (5 : Int32)) X334 hx hZ e334 F354 (by decide) (show (5 : Nat) < 9 from by decide) (g := (mkF m 98 #[iv kk, iv ii, rv ar, .unset] [(.int 1), (.int 5), (.ref br), (.ref br)])) rfl rfl (hb hby at_98)
  refine own_S (mkF m 99 #[iv kk, iv ii, rv ar, .unset] [(.ref br)]) st355 ?_
  have F356 := F335.wr W355
  have F357 := F336.wr W355
  have F358 := F337.wr W355
  have F359 := F338.wr W355
  have F360 := F339.wr W355
  have F361 := F340.wr W355
  have F362 := F341.wr W355
  have F363 := F342.wr W355
  have F364 := F343.wr W355
  have F365 := F344.wr W355
  have F366 := F345.wr W355
  have F367 := F346.wr W355
  have F368 := F347.wr W355
  have F369 := F348.wr W355
  have F370 := F349.wr W355
  have F371 := F350.wr W355
  have F372 := F351.wr W355
  have F373 := F352.wr W355
  have F374 := F353.other W355 n229
  have F375 : own_Ar Z h355 br cA219 .boolean [(.int (0 : Int32)), (.int (0 : Int32)), (.int (0 : Int32)), (.int (0 : Int32)), (.int (1 : Int32)), (.int (1 : Int32)), (.int (0 : Int32)), (.int (0 : Int32)), (.int (0 : Int32))] := AR355
  have N355 := Fr.snoc X355 N334 ge_br
  have Z355 : n0 ≤ h355.size := by rw [Wr.size W355]; exact Z334
  refine own_S (mkF m 100 #[iv kk, iv ii, rv ar, .unset] [(.ref br), (.ref br)]) (fun _ k => XS.dup X355.here hx rfl (hb hby at_99) rfl rfl k) ?_
  refine own_S (mkF m 102 #[iv kk, iv ii, rv ar, .unset] [(.int 6), (.ref br), (.ref br)]) (fun _ k => XS.bipush X355.here hx rfl (hb hby at_100) k) ?_
  refine own_S (mkF m 103 #[iv kk, iv ii, rv ar, .unset] [(.int 0), (.int 6), (.ref br), (.ref br)]) (fun _ k => XS.iconst X355.here hx rfl (hb hby at_102) k) ?_
  obtain ⟨T376, h376, X376, e376, W376, AR376, st376⟩ := own_stZ (j := (6 : Int32)) X355 hx hZ e355 F375 (by decide) (show (6 : Nat) < 9 from by decide) (g := (mkF m 103 #[iv kk, iv ii, rv ar, .unset] [(.int 0), (.int 6), (.ref br), (.ref br)])) rfl rfl (hb hby at_103)
  refine own_S (mkF m 104 #[iv kk, iv ii, rv ar, .unset] [(.ref br)]) st376 ?_
  have F377 := F356.wr W376
  have F378 := F357.wr W376
  have F379 := F358.wr W376
  have F380 := F359.wr W376
  have F381 := F360.wr W376
  have F382 := F361.wr W376
  have F383 := F362.wr W376
  have F384 := F363.wr W376
  have F385 := F364.wr W376
  have F386 := F365.wr W376
  have F387 := F366.wr W376
  have F388 := F367.wr W376
  have F389 := F368.wr W376
  have F390 := F369.wr W376
  have F391 := F370.wr W376
  have F392 := F371.wr W376
  have F393 := F372.wr W376
  have F394 := F373.wr W376
  have F395 := F374.other W376 n229
  have F396 : own_Ar Z h376 br cA219 .boolean [(.int (0 : Int32)), (.int (0 : Int32)), (.int (0 : Int32)), (.int (0 : Int32)), (.int (1 : Int32)), (.int (1 : Int32)), (.int (0 : Int32)), (.int (0 : Int32)), (.int (0 : Int32))] := AR376
  have N376 := Fr.snoc X376 N355 ge_br
  have Z376 : n0 ≤ h376.size := by rw [Wr.size W376]; exact Z355
  refine own_S (mkF m 105 #[iv kk, iv ii, rv ar, .unset] [(.ref br), (.ref br)]) (fun _ k => XS.dup X376.here hx rfl (hb hby at_104) rfl rfl k) ?_
  refine own_S (mkF m 107 #[iv kk, iv ii, rv ar, .unset] [(.int 7), (.ref br), (.ref br)]) (fun _ k => XS.bipush X376.here hx rfl (hb hby at_105) k) ?_
  refine own_S (mkF m 108 #[iv kk, iv ii, rv ar, .unset] [(.int 0), (.int 7), (.ref br), (.ref br)]) (fun _ k => XS.iconst X376.here hx rfl (hb hby at_107) k) ?_
  obtain ⟨T397, h397, X397, e397, W397, AR397, st397⟩ := own_stZ (j := (7 : Int32)) X376 hx hZ e376 F396 (by decide) (show (7 : Nat) < 9 from by decide) (g := (mkF m 108 #[iv kk, iv ii, rv ar, .unset] [(.int 0), (.int 7), (.ref br), (.ref br)])) rfl rfl (hb hby at_108)
  refine own_S (mkF m 109 #[iv kk, iv ii, rv ar, .unset] [(.ref br)]) st397 ?_
  have F398 := F377.wr W397
  have F399 := F378.wr W397
  have F400 := F379.wr W397
  have F401 := F380.wr W397
  have F402 := F381.wr W397
  have F403 := F382.wr W397
  have F404 := F383.wr W397
  have F405 := F384.wr W397
  have F406 := F385.wr W397
  have F407 := F386.wr W397
  have F408 := F387.wr W397
  have F409 := F388.wr W397
  have F410 := F389.wr W397
  have F411 := F390.wr W397
  have F412 := F391.wr W397
  have F413 := F392.wr W397
  have F414 := F393.wr W397
  have F415 := F394.wr W397
  have F416 := F395.other W397 n229
  have F417 : own_Ar Z h397 br cA219 .boolean [(.int (0 : Int32)), (.int (0 : Int32)), (.int (0 : Int32)), (.int (0 : Int32)), (.int (1 : Int32)), (.int (1 : Int32)), (.int (0 : Int32)), (.int (0 : Int32)), (.int (0 : Int32))] := AR397
  have N397 := Fr.snoc X397 N376 ge_br
  have Z397 : n0 ≤ h397.size := by rw [Wr.size W397]; exact Z376
  refine own_S (mkF m 110 #[iv kk, iv ii, rv ar, .unset] [(.ref br), (.ref br)]) (fun _ k => XS.dup X397.here hx rfl (hb hby at_109) rfl rfl k) ?_
  refine own_S (mkF m 112 #[iv kk, iv ii, rv ar, .unset] [(.int 8), (.ref br), (.ref br)]) (fun _ k => XS.bipush X397.here hx rfl (hb hby at_110) k) ?_
  refine own_S (mkF m 113 #[iv kk, iv ii, rv ar, .unset] [(.int 0), (.int 8), (.ref br), (.ref br)]) (fun _ k => XS.iconst X397.here hx rfl (hb hby at_112) k) ?_
  obtain ⟨T418, h418, X418, e418, W418, AR418, st418⟩ := own_stZ (j := (8 : Int32)) X397 hx hZ e397 F417 (by decide) (show (8 : Nat) < 9 from by decide) (g := (mkF m 113 #[iv kk, iv ii, rv ar, .unset] [(.int 0), (.int 8), (.ref br), (.ref br)])) rfl rfl (hb hby at_113)
  refine own_S (mkF m 114 #[iv kk, iv ii, rv ar, .unset] [(.ref br)]) st418 ?_
  have F419 := F398.wr W418
  have F420 := F399.wr W418
  have F421 := F400.wr W418
  have F422 := F401.wr W418
  have F423 := F402.wr W418
  have F424 := F403.wr W418
  have F425 := F404.wr W418
  have F426 := F405.wr W418
  have F427 := F406.wr W418
  have F428 := F407.wr W418
  have F429 := F408.wr W418
  have F430 := F409.wr W418
  have F431 := F410.wr W418
  have F432 := F411.wr W418
  have F433 := F412.wr W418
  have F434 := F413.wr W418
  have F435 := F414.wr W418
  have F436 := F415.wr W418
  have F437 := F416.other W418 n229
  have F438 : own_Ar Z h418 br cA219 .boolean [(.int (0 : Int32)), (.int (0 : Int32)), (.int (0 : Int32)), (.int (0 : Int32)), (.int (1 : Int32)), (.int (1 : Int32)), (.int (0 : Int32)), (.int (0 : Int32)), (.int (0 : Int32))] := AR418
  have N418 := Fr.snoc X418 N397 ge_br
  have Z418 : n0 ≤ h418.size := by rw [Wr.size W418]; exact Z397
  refine own_S (mkF m 115 #[iv kk, iv ii, rv ar, rv br] []) (fun _ k => XS.astoreN X418.here hx rfl (hb hby at_114) rfl rfl (l' := #[iv kk, iv ii, rv ar, rv br]) rfl k) ?_
  refine own_S (mkF m 116 #[iv kk, iv ii, rv ar, rv br] [(.ref ar)]) (fun _ k => XS.aloadN X418.here hx rfl (hb hby at_115) rfl rfl k) ?_
  refine own_S (mkF m 117 #[iv kk, iv ii, rv ar, rv br] [(.int ii), (.ref ar)]) (fun _ k => XS.iloadN X418.here hx rfl (hb hby at_116) rfl k) ?_
  rcases o_ii with q439_0 | q440_1 | q441_2 | q442_3 | q443_4 | q444_5 | q445_6 | q446_7 | q447_8
  · -- ii = 0
    subst q439_0
    refine own_S (mkF m 118 #[iv kk, .val (.int 0), rv ar, rv br] [(.ref b0)]) (fun _ k => own_ldR X418 hx hZ e418 F437 (by decide) rfl rfl (g := (mkF m 117 #[iv kk, .val (.int 0), rv ar, rv br] [(.int 0), (.ref ar)])) rfl rfl (hb hby at_117) _ k) ?_
    obtain ⟨cq448, kq448, q448a, q448b, q448c⟩ := isOf hZ e418 F420
    obtain ⟨_, _, ⟨T448, L448, k448, n448⟩, -, X448, ⟨Lc448, hQ448, l448, y448, z448⟩, st448⟩ := X418.virtualBack hx (y := own_y0) (z := own_y0) hown (mvT hZ (own_g hw (i := 24) rfl)) (mvT hZ (own_g hw (i := 25) rfl)) (notFace_of_selects (args := #[]) (mvT hZ (own_g hw (i := 27) rfl))) (mvT hZ (own_g hw (i := 27) rfl)) (mvT hZ (own_g hw (i := 26) rfl)) (by decide) (backOf (W := 0) (own_rmhs l Z a0 hw [] (b0) (b4) (b5) h418 n0 Z418 F427 F429) hZ (own_g hw (i := 28) rfl) (own_g hw (i := 4) rfl) (by decide) (by decide)) q448a q448c (g := (mkF m 118 #[iv kk, .val (.int 0), rv ar, rv br] [(.ref b0)])) rfl (by rw [hml]; rfl) (Steps.refl _) (argsL := []) (rest := []) (lenOf own_pd___Z rfl) rfl (by show 2 * 0 + _ ≤ _; exact Nat.le_of_eq rfl) (hb hby at_118) (fun _ _ => ⟨rfl, e418, (by decide : 2 + 0 ≤ _), (by decide : 18 + 0 ≤ _)⟩)
    dsimp only [Pt.U, Pt.locs, Pt.cells, Pt.slots] at X448 l448 y448 z448 st448 hQ448
    subst l448 y448 z448
    obtain ⟨rfl, N448q, e448⟩ := hQ448
    have N448 := Fr.app N418 N448q
    refine own_S (mkF m 121 #[iv kk, .val (.int 0), rv ar, rv br] [(.int (if b0 = b4 ∨ b0 = b5 then (1 : Int32) else (0 : Int32)))]) (fun _ k => st448.trans k) ?_
    refine own_S (mkF m 122 #[iv kk, .val (.int 0), rv ar, rv br] [(.ref br), (.int (if b0 = b4 ∨ b0 = b5 then (1 : Int32) else (0 : Int32)))]) (fun _ k => XS.aloadN X448.here hx rfl (hb hby at_121) rfl rfl k) ?_
    refine own_S (mkF m 123 #[iv kk, .val (.int 0), rv ar, rv br] [(.int 0), (.ref br), (.int (if b0 = b4 ∨ b0 = b5 then (1 : Int32) else (0 : Int32)))]) (fun _ k => XS.iloadN X448.here hx rfl (hb hby at_122) rfl k) ?_
    refine own_S (mkF m 124 #[iv kk, .val (.int 0), rv ar, rv br] [(.int 0), (.int (if b0 = b4 ∨ b0 = b5 then (1 : Int32) else (0 : Int32)))]) (fun _ k => own_ldZ X448 hx hZ e448 F438 (by decide) rfl (g := (mkF m 123 #[iv kk, .val (.int 0), rv ar, rv br] [(.int 0), (.ref br), (.int (if b0 = b4 ∨ b0 = b5 then (1 : Int32) else (0 : Int32)))])) rfl rfl (hb hby at_123) _ k) ?_
    have hc449 : (if b0 = b4 ∨ b0 = b5 then (1 : Int32) else (0 : Int32)) = (0 : Int32) := (by rw [if_neg (fun q => q.elim NE_b0_b4 NE_b0_b5)])
    refine own_S (mkF m 127 #[iv kk, .val (.int 0), rv ar, rv br] []) (fun _ k => XS.icmpNo X448.here hx rfl (hb hby at_124) rfl (teq hc449).2 k) ?_
    refine own_S (mkF m 128 #[iv kk, .val (.int 0), rv ar, rv br] [(.int 1)]) (fun _ k => XS.iconst X448.here hx rfl (hb hby at_127) k) ?_
    refine own_S (mkF m 132 #[iv kk, .val (.int 0), rv ar, rv br] [(.int 1)]) (fun _ k => XS.goto X448.here hx rfl (pc0 := 128) (pc' := 132) rfl (hb hby at_128) (by decide) (by decide) k) ?_
    exact own_retN X448 hx hlk (t := .boolean) hret (by simp) (hb hby at_132) (by rw [e448]; exact ⟨rfl, N448, trivial⟩) (by decide) (by decide)
  · -- ii = 1
    subst q440_1
    refine own_S (mkF m 118 #[iv kk, .val (.int 1), rv ar, rv br] [(.ref b1)]) (fun _ k => own_ldR X418 hx hZ e418 F437 (by decide) rfl rfl (g := (mkF m 117 #[iv kk, .val (.int 1), rv ar, rv br] [(.int 1), (.ref ar)])) rfl rfl (hb hby at_117) _ k) ?_
    obtain ⟨cq450, kq450, q450a, q450b, q450c⟩ := isOf hZ e418 F422
    obtain ⟨_, _, ⟨T450, L450, k450, n450⟩, -, X450, ⟨Lc450, hQ450, l450, y450, z450⟩, st450⟩ := X418.virtualBack hx (y := own_y0) (z := own_y0) hown (mvT hZ (own_g hw (i := 24) rfl)) (mvT hZ (own_g hw (i := 25) rfl)) (notFace_of_selects (args := #[]) (mvT hZ (own_g hw (i := 27) rfl))) (mvT hZ (own_g hw (i := 27) rfl)) (mvT hZ (own_g hw (i := 26) rfl)) (by decide) (backOf (W := 0) (own_rmhs l Z a0 hw [] (b1) (b4) (b5) h418 n0 Z418 F427 F429) hZ (own_g hw (i := 28) rfl) (own_g hw (i := 4) rfl) (by decide) (by decide)) q450a q450c (g := (mkF m 118 #[iv kk, .val (.int 1), rv ar, rv br] [(.ref b1)])) rfl (by rw [hml]; rfl) (Steps.refl _) (argsL := []) (rest := []) (lenOf own_pd___Z rfl) rfl (by show 2 * 0 + _ ≤ _; exact Nat.le_of_eq rfl) (hb hby at_118) (fun _ _ => ⟨rfl, e418, (by decide : 2 + 0 ≤ _), (by decide : 18 + 0 ≤ _)⟩)
    dsimp only [Pt.U, Pt.locs, Pt.cells, Pt.slots] at X450 l450 y450 z450 st450 hQ450
    subst l450 y450 z450
    obtain ⟨rfl, N450q, e450⟩ := hQ450
    have N450 := Fr.app N418 N450q
    refine own_S (mkF m 121 #[iv kk, .val (.int 1), rv ar, rv br] [(.int (if b1 = b4 ∨ b1 = b5 then (1 : Int32) else (0 : Int32)))]) (fun _ k => st450.trans k) ?_
    refine own_S (mkF m 122 #[iv kk, .val (.int 1), rv ar, rv br] [(.ref br), (.int (if b1 = b4 ∨ b1 = b5 then (1 : Int32) else (0 : Int32)))]) (fun _ k => XS.aloadN X450.here hx rfl (hb hby at_121) rfl rfl k) ?_
    refine own_S (mkF m 123 #[iv kk, .val (.int 1), rv ar, rv br] [(.int 1), (.ref br), (.int (if b1 = b4 ∨ b1 = b5 then (1 : Int32) else (0 : Int32)))]) (fun _ k => XS.iloadN X450.here hx rfl (hb hby at_122) rfl k) ?_
    refine own_S (mkF m 124 #[iv kk, .val (.int 1), rv ar, rv br] [(.int 0), (.int (if b1 = b4 ∨ b1 = b5 then (1 : Int32) else (0 : Int32)))]) (fun _ k => own_ldZ X450 hx hZ e450 F438 (by decide) rfl (g := (mkF m 123 #[iv kk, .val (.int 1), rv ar, rv br] [(.int 1), (.ref br), (.int (if b1 = b4 ∨ b1 = b5 then (1 : Int32) else (0 : Int32)))])) rfl rfl (hb hby at_123) _ k) ?_
    have hc451 : (if b1 = b4 ∨ b1 = b5 then (1 : Int32) else (0 : Int32)) = (0 : Int32) := (by rw [if_neg (fun q => q.elim NE_b1_b4 NE_b1_b5)])
    refine own_S (mkF m 127 #[iv kk, .val (.int 1), rv ar, rv br] []) (fun _ k => XS.icmpNo X450.here hx rfl (hb hby at_124) rfl (teq hc451).2 k) ?_
    refine own_S (mkF m 128 #[iv kk, .val (.int 1), rv ar, rv br] [(.int 1)]) (fun _ k => XS.iconst X450.here hx rfl (hb hby at_127) k) ?_
    refine own_S (mkF m 132 #[iv kk, .val (.int 1), rv ar, rv br] [(.int 1)]) (fun _ k => XS.goto X450.here hx rfl (pc0 := 128) (pc' := 132) rfl (hb hby at_128) (by decide) (by decide) k) ?_
    exact own_retN X450 hx hlk (t := .boolean) hret (by simp) (hb hby at_132) (by rw [e450]; exact ⟨rfl, N450, trivial⟩) (by decide) (by decide)
  · -- ii = 2
    subst q441_2
    refine own_S (mkF m 118 #[iv kk, .val (.int 2), rv ar, rv br] [(.ref b2)]) (fun _ k => own_ldR X418 hx hZ e418 F437 (by decide) rfl rfl (g := (mkF m 117 #[iv kk, .val (.int 2), rv ar, rv br] [(.int 2), (.ref ar)])) rfl rfl (hb hby at_117) _ k) ?_
    obtain ⟨cq452, kq452, q452a, q452b, q452c⟩ := isOf hZ e418 F424
    obtain ⟨_, _, ⟨T452, L452, k452, n452⟩, -, X452, ⟨Lc452, hQ452, l452, y452, z452⟩, st452⟩ := X418.virtualBack hx (y := own_y0) (z := own_y0) hown (mvT hZ (own_g hw (i := 24) rfl)) (mvT hZ (own_g hw (i := 25) rfl)) (notFace_of_selects (args := #[]) (mvT hZ (own_g hw (i := 27) rfl))) (mvT hZ (own_g hw (i := 27) rfl)) (mvT hZ (own_g hw (i := 26) rfl)) (by decide) (backOf (W := 0) (own_rmhs l Z a0 hw [] (b2) (b4) (b5) h418 n0 Z418 F427 F429) hZ (own_g hw (i := 28) rfl) (own_g hw (i := 4) rfl) (by decide) (by decide)) q452a q452c (g := (mkF m 118 #[iv kk, .val (.int 2), rv ar, rv br] [(.ref b2)])) rfl (by rw [hml]; rfl) (Steps.refl _) (argsL := []) (rest := []) (lenOf own_pd___Z rfl) rfl (by show 2 * 0 + _ ≤ _; exact Nat.le_of_eq rfl) (hb hby at_118) (fun _ _ => ⟨rfl, e418, (by decide : 2 + 0 ≤ _), (by decide : 18 + 0 ≤ _)⟩)
    dsimp only [Pt.U, Pt.locs, Pt.cells, Pt.slots] at X452 l452 y452 z452 st452 hQ452
    subst l452 y452 z452
    obtain ⟨rfl, N452q, e452⟩ := hQ452
    have N452 := Fr.app N418 N452q
    refine own_S (mkF m 121 #[iv kk, .val (.int 2), rv ar, rv br] [(.int (if b2 = b4 ∨ b2 = b5 then (1 : Int32) else (0 : Int32)))]) (fun _ k => st452.trans k) ?_
    refine own_S (mkF m 122 #[iv kk, .val (.int 2), rv ar, rv br] [(.ref br), (.int (if b2 = b4 ∨ b2 = b5 then (1 : Int32) else (0 : Int32)))]) (fun _ k => XS.aloadN X452.here hx rfl (hb hby at_121) rfl rfl k) ?_
    refine own_S (mkF m 123 #[iv kk, .val (.int 2), rv ar, rv br] [(.int 2), (.ref br), (.int (if b2 = b4 ∨ b2 = b5 then (1 : Int32) else (0 : Int32)))]) (fun _ k => XS.iloadN X452.here hx rfl (hb hby at_122) rfl k) ?_
    refine own_S (mkF m 124 #[iv kk, .val (.int 2), rv ar, rv br] [(.int 0), (.int (if b2 = b4 ∨ b2 = b5 then (1 : Int32) else (0 : Int32)))]) (fun _ k => own_ldZ X452 hx hZ e452 F438 (by decide) rfl (g := (mkF m 123 #[iv kk, .val (.int 2), rv ar, rv br] [(.int 2), (.ref br), (.int (if b2 = b4 ∨ b2 = b5 then (1 : Int32) else (0 : Int32)))])) rfl rfl (hb hby at_123) _ k) ?_
    have hc453 : (if b2 = b4 ∨ b2 = b5 then (1 : Int32) else (0 : Int32)) = (0 : Int32) := (by rw [if_neg (fun q => q.elim NE_b2_b4 NE_b2_b5)])
    refine own_S (mkF m 127 #[iv kk, .val (.int 2), rv ar, rv br] []) (fun _ k => XS.icmpNo X452.here hx rfl (hb hby at_124) rfl (teq hc453).2 k) ?_
    refine own_S (mkF m 128 #[iv kk, .val (.int 2), rv ar, rv br] [(.int 1)]) (fun _ k => XS.iconst X452.here hx rfl (hb hby at_127) k) ?_
    refine own_S (mkF m 132 #[iv kk, .val (.int 2), rv ar, rv br] [(.int 1)]) (fun _ k => XS.goto X452.here hx rfl (pc0 := 128) (pc' := 132) rfl (hb hby at_128) (by decide) (by decide) k) ?_
    exact own_retN X452 hx hlk (t := .boolean) hret (by simp) (hb hby at_132) (by rw [e452]; exact ⟨rfl, N452, trivial⟩) (by decide) (by decide)
  · -- ii = 3
    subst q442_3
    refine own_S (mkF m 118 #[iv kk, .val (.int 3), rv ar, rv br] [(.ref b3)]) (fun _ k => own_ldR X418 hx hZ e418 F437 (by decide) rfl rfl (g := (mkF m 117 #[iv kk, .val (.int 3), rv ar, rv br] [(.int 3), (.ref ar)])) rfl rfl (hb hby at_117) _ k) ?_
    obtain ⟨cq454, kq454, q454a, q454b, q454c⟩ := isOf hZ e418 F426
    obtain ⟨_, _, ⟨T454, L454, k454, n454⟩, -, X454, ⟨Lc454, hQ454, l454, y454, z454⟩, st454⟩ := X418.virtualBack hx (y := own_y0) (z := own_y0) hown (mvT hZ (own_g hw (i := 24) rfl)) (mvT hZ (own_g hw (i := 25) rfl)) (notFace_of_selects (args := #[]) (mvT hZ (own_g hw (i := 27) rfl))) (mvT hZ (own_g hw (i := 27) rfl)) (mvT hZ (own_g hw (i := 26) rfl)) (by decide) (backOf (W := 0) (own_rmhs l Z a0 hw [] (b3) (b4) (b5) h418 n0 Z418 F427 F429) hZ (own_g hw (i := 28) rfl) (own_g hw (i := 4) rfl) (by decide) (by decide)) q454a q454c (g := (mkF m 118 #[iv kk, .val (.int 3), rv ar, rv br] [(.ref b3)])) rfl (by rw [hml]; rfl) (Steps.refl _) (argsL := []) (rest := []) (lenOf own_pd___Z rfl) rfl (by show 2 * 0 + _ ≤ _; exact Nat.le_of_eq rfl) (hb hby at_118) (fun _ _ => ⟨rfl, e418, (by decide : 2 + 0 ≤ _), (by decide : 18 + 0 ≤ _)⟩)
    dsimp only [Pt.U, Pt.locs, Pt.cells, Pt.slots] at X454 l454 y454 z454 st454 hQ454
    subst l454 y454 z454
    obtain ⟨rfl, N454q, e454⟩ := hQ454
    have N454 := Fr.app N418 N454q
    refine own_S (mkF m 121 #[iv kk, .val (.int 3), rv ar, rv br] [(.int (if b3 = b4 ∨ b3 = b5 then (1 : Int32) else (0 : Int32)))]) (fun _ k => st454.trans k) ?_
    refine own_S (mkF m 122 #[iv kk, .val (.int 3), rv ar, rv br] [(.ref br), (.int (if b3 = b4 ∨ b3 = b5 then (1 : Int32) else (0 : Int32)))]) (fun _ k => XS.aloadN X454.here hx rfl (hb hby at_121) rfl rfl k) ?_
    refine own_S (mkF m 123 #[iv kk, .val (.int 3), rv ar, rv br] [(.int 3), (.ref br), (.int (if b3 = b4 ∨ b3 = b5 then (1 : Int32) else (0 : Int32)))]) (fun _ k => XS.iloadN X454.here hx rfl (hb hby at_122) rfl k) ?_
    refine own_S (mkF m 124 #[iv kk, .val (.int 3), rv ar, rv br] [(.int 0), (.int (if b3 = b4 ∨ b3 = b5 then (1 : Int32) else (0 : Int32)))]) (fun _ k => own_ldZ X454 hx hZ e454 F438 (by decide) rfl (g := (mkF m 123 #[iv kk, .val (.int 3), rv ar, rv br] [(.int 3), (.ref br), (.int (if b3 = b4 ∨ b3 = b5 then (1 : Int32) else (0 : Int32)))])) rfl rfl (hb hby at_123) _ k) ?_
    have hc455 : (if b3 = b4 ∨ b3 = b5 then (1 : Int32) else (0 : Int32)) = (0 : Int32) := (by rw [if_neg (fun q => q.elim NE_b3_b4 NE_b3_b5)])
    refine own_S (mkF m 127 #[iv kk, .val (.int 3), rv ar, rv br] []) (fun _ k => XS.icmpNo X454.here hx rfl (hb hby at_124) rfl (teq hc455).2 k) ?_
    refine own_S (mkF m 128 #[iv kk, .val (.int 3), rv ar, rv br] [(.int 1)]) (fun _ k => XS.iconst X454.here hx rfl (hb hby at_127) k) ?_
    refine own_S (mkF m 132 #[iv kk, .val (.int 3), rv ar, rv br] [(.int 1)]) (fun _ k => XS.goto X454.here hx rfl (pc0 := 128) (pc' := 132) rfl (hb hby at_128) (by decide) (by decide) k) ?_
    exact own_retN X454 hx hlk (t := .boolean) hret (by simp) (hb hby at_132) (by rw [e454]; exact ⟨rfl, N454, trivial⟩) (by decide) (by decide)
  · -- ii = 4
    subst q443_4
    refine own_S (mkF m 118 #[iv kk, .val (.int 4), rv ar, rv br] [(.ref b4)]) (fun _ k => own_ldR X418 hx hZ e418 F437 (by decide) rfl rfl (g := (mkF m 117 #[iv kk, .val (.int 4), rv ar, rv br] [(.int 4), (.ref ar)])) rfl rfl (hb hby at_117) _ k) ?_
    obtain ⟨cq456, kq456, q456a, q456b, q456c⟩ := isOf hZ e418 F428
    obtain ⟨_, _, ⟨T456, L456, k456, n456⟩, -, X456, ⟨Lc456, hQ456, l456, y456, z456⟩, st456⟩ := X418.virtualBack hx (y := own_y0) (z := own_y0) hown (mvT hZ (own_g hw (i := 24) rfl)) (mvT hZ (own_g hw (i := 25) rfl)) (notFace_of_selects (args := #[]) (mvT hZ (own_g hw (i := 27) rfl))) (mvT hZ (own_g hw (i := 27) rfl)) (mvT hZ (own_g hw (i := 26) rfl)) (by decide) (backOf (W := 0) (own_rmhs l Z a0 hw [] (b4) (b4) (b5) h418 n0 Z418 F427 F429) hZ (own_g hw (i := 28) rfl) (own_g hw (i := 4) rfl) (by decide) (by decide)) q456a q456c (g := (mkF m 118 #[iv kk, .val (.int 4), rv ar, rv br] [(.ref b4)])) rfl (by rw [hml]; rfl) (Steps.refl _) (argsL := []) (rest := []) (lenOf own_pd___Z rfl) rfl (by show 2 * 0 + _ ≤ _; exact Nat.le_of_eq rfl) (hb hby at_118) (fun _ _ => ⟨rfl, e418, (by decide : 2 + 0 ≤ _), (by decide : 18 + 0 ≤ _)⟩)
    dsimp only [Pt.U, Pt.locs, Pt.cells, Pt.slots] at X456 l456 y456 z456 st456 hQ456
    subst l456 y456 z456
    obtain ⟨rfl, N456q, e456⟩ := hQ456
    have N456 := Fr.app N418 N456q
    refine own_S (mkF m 121 #[iv kk, .val (.int 4), rv ar, rv br] [(.int (if b4 = b4 ∨ b4 = b5 then (1 : Int32) else (0 : Int32)))]) (fun _ k => st456.trans k) ?_
    refine own_S (mkF m 122 #[iv kk, .val (.int 4), rv ar, rv br] [(.ref br), (.int (if b4 = b4 ∨ b4 = b5 then (1 : Int32) else (0 : Int32)))]) (fun _ k => XS.aloadN X456.here hx rfl (hb hby at_121) rfl rfl k) ?_
    refine own_S (mkF m 123 #[iv kk, .val (.int 4), rv ar, rv br] [(.int 4), (.ref br), (.int (if b4 = b4 ∨ b4 = b5 then (1 : Int32) else (0 : Int32)))]) (fun _ k => XS.iloadN X456.here hx rfl (hb hby at_122) rfl k) ?_
    refine own_S (mkF m 124 #[iv kk, .val (.int 4), rv ar, rv br] [(.int 1), (.int (if b4 = b4 ∨ b4 = b5 then (1 : Int32) else (0 : Int32)))]) (fun _ k => own_ldZ X456 hx hZ e456 F438 (by decide) rfl (g := (mkF m 123 #[iv kk, .val (.int 4), rv ar, rv br] [(.int 4), (.ref br), (.int (if b4 = b4 ∨ b4 = b5 then (1 : Int32) else (0 : Int32)))])) rfl rfl (hb hby at_123) _ k) ?_
    have hc457 : (if b4 = b4 ∨ b4 = b5 then (1 : Int32) else (0 : Int32)) = (1 : Int32) := (by rw [if_pos (Or.inl rfl)])
    refine own_S (mkF m 127 #[iv kk, .val (.int 4), rv ar, rv br] []) (fun _ k => XS.icmpNo X456.here hx rfl (hb hby at_124) rfl (teq hc457).2 k) ?_
    refine own_S (mkF m 128 #[iv kk, .val (.int 4), rv ar, rv br] [(.int 1)]) (fun _ k => XS.iconst X456.here hx rfl (hb hby at_127) k) ?_
    refine own_S (mkF m 132 #[iv kk, .val (.int 4), rv ar, rv br] [(.int 1)]) (fun _ k => XS.goto X456.here hx rfl (pc0 := 128) (pc' := 132) rfl (hb hby at_128) (by decide) (by decide) k) ?_
    exact own_retN X456 hx hlk (t := .boolean) hret (by simp) (hb hby at_132) (by rw [e456]; exact ⟨rfl, N456, trivial⟩) (by decide) (by decide)
  · -- ii = 5
    subst q444_5
    refine own_S (mkF m 118 #[iv kk, .val (.int 5), rv ar, rv br] [(.ref b5)]) (fun _ k => own_ldR X418 hx hZ e418 F437 (by decide) rfl rfl (g := (mkF m 117 #[iv kk, .val (.int 5), rv ar, rv br] [(.int 5), (.ref ar)])) rfl rfl (hb hby at_117) _ k) ?_
    obtain ⟨cq458, kq458, q458a, q458b, q458c⟩ := isOf hZ e418 F430
    obtain ⟨_, _, ⟨T458, L458, k458, n458⟩, -, X458, ⟨Lc458, hQ458, l458, y458, z458⟩, st458⟩ := X418.virtualBack hx (y := own_y0) (z := own_y0) hown (mvT hZ (own_g hw (i := 24) rfl)) (mvT hZ (own_g hw (i := 25) rfl)) (notFace_of_selects (args := #[]) (mvT hZ (own_g hw (i := 27) rfl))) (mvT hZ (own_g hw (i := 27) rfl)) (mvT hZ (own_g hw (i := 26) rfl)) (by decide) (backOf (W := 0) (own_rmhs l Z a0 hw [] (b5) (b4) (b5) h418 n0 Z418 F427 F429) hZ (own_g hw (i := 28) rfl) (own_g hw (i := 4) rfl) (by decide) (by decide)) q458a q458c (g := (mkF m 118 #[iv kk, .val (.int 5), rv ar, rv br] [(.ref b5)])) rfl (by rw [hml]; rfl) (Steps.refl _) (argsL := []) (rest := []) (lenOf own_pd___Z rfl) rfl (by show 2 * 0 + _ ≤ _; exact Nat.le_of_eq rfl) (hb hby at_118) (fun _ _ => ⟨rfl, e418, (by decide : 2 + 0 ≤ _), (by decide : 18 + 0 ≤ _)⟩)
    dsimp only [Pt.U, Pt.locs, Pt.cells, Pt.slots] at X458 l458 y458 z458 st458 hQ458
    subst l458 y458 z458
    obtain ⟨rfl, N458q, e458⟩ := hQ458
    have N458 := Fr.app N418 N458q
    refine own_S (mkF m 121 #[iv kk, .val (.int 5), rv ar, rv br] [(.int (if b5 = b4 ∨ b5 = b5 then (1 : Int32) else (0 : Int32)))]) (fun _ k => st458.trans k) ?_
    refine own_S (mkF m 122 #[iv kk, .val (.int 5), rv ar, rv br] [(.ref br), (.int (if b5 = b4 ∨ b5 = b5 then (1 : Int32) else (0 : Int32)))]) (fun _ k => XS.aloadN X458.here hx rfl (hb hby at_121) rfl rfl k) ?_
    refine own_S (mkF m 123 #[iv kk, .val (.int 5), rv ar, rv br] [(.int 5), (.ref br), (.int (if b5 = b4 ∨ b5 = b5 then (1 : Int32) else (0 : Int32)))]) (fun _ k => XS.iloadN X458.here hx rfl (hb hby at_122) rfl k) ?_
    refine own_S (mkF m 124 #[iv kk, .val (.int 5), rv ar, rv br] [(.int 1), (.int (if b5 = b4 ∨ b5 = b5 then (1 : Int32) else (0 : Int32)))]) (fun _ k => own_ldZ X458 hx hZ e458 F438 (by decide) rfl (g := (mkF m 123 #[iv kk, .val (.int 5), rv ar, rv br] [(.int 5), (.ref br), (.int (if b5 = b4 ∨ b5 = b5 then (1 : Int32) else (0 : Int32)))])) rfl rfl (hb hby at_123) _ k) ?_
    have hc459 : (if b5 = b4 ∨ b5 = b5 then (1 : Int32) else (0 : Int32)) = (1 : Int32) := (by rw [if_pos (Or.inr rfl)])
    refine own_S (mkF m 127 #[iv kk, .val (.int 5), rv ar, rv br] []) (fun _ k => XS.icmpNo X458.here hx rfl (hb hby at_124) rfl (teq hc459).2 k) ?_
    refine own_S (mkF m 128 #[iv kk, .val (.int 5), rv ar, rv br] [(.int 1)]) (fun _ k => XS.iconst X458.here hx rfl (hb hby at_127) k) ?_
    refine own_S (mkF m 132 #[iv kk, .val (.int 5), rv ar, rv br] [(.int 1)]) (fun _ k => XS.goto X458.here hx rfl (pc0 := 128) (pc' := 132) rfl (hb hby at_128) (by decide) (by decide) k) ?_
    exact own_retN X458 hx hlk (t := .boolean) hret (by simp) (hb hby at_132) (by rw [e458]; exact ⟨rfl, N458, trivial⟩) (by decide) (by decide)
  · -- ii = 6
    subst q445_6
    refine own_S (mkF m 118 #[iv kk, .val (.int 6), rv ar, rv br] [(.ref b6)]) (fun _ k => own_ldR X418 hx hZ e418 F437 (by decide) rfl rfl (g := (mkF m 117 #[iv kk, .val (.int 6), rv ar, rv br] [(.int 6), (.ref ar)])) rfl rfl (hb hby at_117) _ k) ?_
    obtain ⟨cq460, kq460, q460a, q460b, q460c⟩ := isOf hZ e418 F432
    obtain ⟨_, _, ⟨T460, L460, k460, n460⟩, -, X460, ⟨Lc460, hQ460, l460, y460, z460⟩, st460⟩ := X418.virtualBack hx (y := own_y0) (z := own_y0) hown (mvT hZ (own_g hw (i := 24) rfl)) (mvT hZ (own_g hw (i := 25) rfl)) (notFace_of_selects (args := #[]) (mvT hZ (own_g hw (i := 27) rfl))) (mvT hZ (own_g hw (i := 27) rfl)) (mvT hZ (own_g hw (i := 26) rfl)) (by decide) (backOf (W := 0) (own_rmhs l Z a0 hw [] (b6) (b4) (b5) h418 n0 Z418 F427 F429) hZ (own_g hw (i := 28) rfl) (own_g hw (i := 4) rfl) (by decide) (by decide)) q460a q460c (g := (mkF m 118 #[iv kk, .val (.int 6), rv ar, rv br] [(.ref b6)])) rfl (by rw [hml]; rfl) (Steps.refl _) (argsL := []) (rest := []) (lenOf own_pd___Z rfl) rfl (by show 2 * 0 + _ ≤ _; exact Nat.le_of_eq rfl) (hb hby at_118) (fun _ _ => ⟨rfl, e418, (by decide : 2 + 0 ≤ _), (by decide : 18 + 0 ≤ _)⟩)
    dsimp only [Pt.U, Pt.locs, Pt.cells, Pt.slots] at X460 l460 y460 z460 st460 hQ460
    subst l460 y460 z460
    obtain ⟨rfl, N460q, e460⟩ := hQ460
    have N460 := Fr.app N418 N460q
    refine own_S (mkF m 121 #[iv kk, .val (.int 6), rv ar, rv br] [(.int (if b6 = b4 ∨ b6 = b5 then (1 : Int32) else (0 : Int32)))]) (fun _ k => st460.trans k) ?_
    refine own_S (mkF m 122 #[iv kk, .val (.int 6), rv ar, rv br] [(.ref br), (.int (if b6 = b4 ∨ b6 = b5 then (1 : Int32) else (0 : Int32)))]) (fun _ k => XS.aloadN X460.here hx rfl (hb hby at_121) rfl rfl k) ?_
    refine own_S (mkF m 123 #[iv kk, .val (.int 6), rv ar, rv br] [(.int 6), (.ref br), (.int (if b6 = b4 ∨ b6 = b5 then (1 : Int32) else (0 : Int32)))]) (fun _ k => XS.iloadN X460.here hx rfl (hb hby at_122) rfl k) ?_
    refine own_S (mkF m 124 #[iv kk, .val (.int 6), rv ar, rv br] [(.int 0), (.int (if b6 = b4 ∨ b6 = b5 then (1 : Int32) else (0 : Int32)))]) (fun _ k => own_ldZ X460 hx hZ e460 F438 (by decide) rfl (g := (mkF m 123 #[iv kk, .val (.int 6), rv ar, rv br] [(.int 6), (.ref br), (.int (if b6 = b4 ∨ b6 = b5 then (1 : Int32) else (0 : Int32)))])) rfl rfl (hb hby at_123) _ k) ?_
    have hc461 : (if b6 = b4 ∨ b6 = b5 then (1 : Int32) else (0 : Int32)) = (0 : Int32) := (by rw [if_neg (fun q => q.elim NE_b6_b4 NE_b6_b5)])
    refine own_S (mkF m 127 #[iv kk, .val (.int 6), rv ar, rv br] []) (fun _ k => XS.icmpNo X460.here hx rfl (hb hby at_124) rfl (teq hc461).2 k) ?_
    refine own_S (mkF m 128 #[iv kk, .val (.int 6), rv ar, rv br] [(.int 1)]) (fun _ k => XS.iconst X460.here hx rfl (hb hby at_127) k) ?_
    refine own_S (mkF m 132 #[iv kk, .val (.int 6), rv ar, rv br] [(.int 1)]) (fun _ k => XS.goto X460.here hx rfl (pc0 := 128) (pc' := 132) rfl (hb hby at_128) (by decide) (by decide) k) ?_
    exact own_retN X460 hx hlk (t := .boolean) hret (by simp) (hb hby at_132) (by rw [e460]; exact ⟨rfl, N460, trivial⟩) (by decide) (by decide)
  · -- ii = 7
    subst q446_7
    refine own_S (mkF m 118 #[iv kk, .val (.int 7), rv ar, rv br] [(.ref b7)]) (fun _ k => own_ldR X418 hx hZ e418 F437 (by decide) rfl rfl (g := (mkF m 117 #[iv kk, .val (.int 7), rv ar, rv br] [(.int 7), (.ref ar)])) rfl rfl (hb hby at_117) _ k) ?_
    obtain ⟨cq462, kq462, q462a, q462b, q462c⟩ := isOf hZ e418 F434
    obtain ⟨_, _, ⟨T462, L462, k462, n462⟩, -, X462, ⟨Lc462, hQ462, l462, y462, z462⟩, st462⟩ := X418.virtualBack hx (y := own_y0) (z := own_y0) hown (mvT hZ (own_g hw (i := 24) rfl)) (mvT hZ (own_g hw (i := 25) rfl)) (notFace_of_selects (args := #[]) (mvT hZ (own_g hw (i := 27) rfl))) (mvT hZ (own_g hw (i := 27) rfl)) (mvT hZ (own_g hw (i := 26) rfl)) (by decide) (backOf (W := 0) (own_rmhs l Z a0 hw [] (b7) (b4) (b5) h418 n0 Z418 F427 F429) hZ (own_g hw (i := 28) rfl) (own_g hw (i := 4) rfl) (by decide) (by decide)) q462a q462c (g := (mkF m 118 #[iv kk, .val (.int 7), rv ar, rv br] [(.ref b7)])) rfl (by rw [hml]; rfl) (Steps.refl _) (argsL := []) (rest := []) (lenOf own_pd___Z rfl) rfl (by show 2 * 0 + _ ≤ _; exact Nat.le_of_eq rfl) (hb hby at_118) (fun _ _ => ⟨rfl, e418, (by decide : 2 + 0 ≤ _), (by decide : 18 + 0 ≤ _)⟩)
    dsimp only [Pt.U, Pt.locs, Pt.cells, Pt.slots] at X462 l462 y462 z462 st462 hQ462
    subst l462 y462 z462
    obtain ⟨rfl, N462q, e462⟩ := hQ462
    have N462 := Fr.app N418 N462q
    refine own_S (mkF m 121 #[iv kk, .val (.int 7), rv ar, rv br] [(.int (if b7 = b4 ∨ b7 = b5 then (1 : Int32) else (0 : Int32)))]) (fun _ k => st462.trans k) ?_
    refine own_S (mkF m 122 #[iv kk, .val (.int 7), rv ar, rv br] [(.ref br), (.int (if b7 = b4 ∨ b7 = b5 then (1 : Int32) else (0 : Int32)))]) (fun _ k => XS.aloadN X462.here hx rfl (hb hby at_121) rfl rfl k) ?_
    refine own_S (mkF m 123 #[iv kk, .val (.int 7), rv ar, rv br] [(.int 7), (.ref br), (.int (if b7 = b4 ∨ b7 = b5 then (1 : Int32) else (0 : Int32)))]) (fun _ k => XS.iloadN X462.here hx rfl (hb hby at_122) rfl k) ?_
    refine own_S (mkF m 124 #[iv kk, .val (.int 7), rv ar, rv br] [(.int 0), (.int (if b7 = b4 ∨ b7 = b5 then (1 : Int32) else (0 : Int32)))]) (fun _ k => own_ldZ X462 hx hZ e462 F438 (by decide) rfl (g := (mkF m 123 #[iv kk, .val (.int 7), rv ar, rv br] [(.int 7), (.ref br), (.int (if b7 = b4 ∨ b7 = b5 then (1 : Int32) else (0 : Int32)))])) rfl rfl (hb hby at_123) _ k) ?_
    have hc463 : (if b7 = b4 ∨ b7 = b5 then (1 : Int32) else (0 : Int32)) = (0 : Int32) := (by rw [if_neg (fun q => q.elim NE_b7_b4 NE_b7_b5)])
    refine own_S (mkF m 127 #[iv kk, .val (.int 7), rv ar, rv br] []) (fun _ k => XS.icmpNo X462.here hx rfl (hb hby at_124) rfl (teq hc463).2 k) ?_
    refine own_S (mkF m 128 #[iv kk, .val (.int 7), rv ar, rv br] [(.int 1)]) (fun _ k => XS.iconst X462.here hx rfl (hb hby at_127) k) ?_
    refine own_S (mkF m 132 #[iv kk, .val (.int 7), rv ar, rv br] [(.int 1)]) (fun _ k => XS.goto X462.here hx rfl (pc0 := 128) (pc' := 132) rfl (hb hby at_128) (by decide) (by decide) k) ?_
    exact own_retN X462 hx hlk (t := .boolean) hret (by simp) (hb hby at_132) (by rw [e462]; exact ⟨rfl, N462, trivial⟩) (by decide) (by decide)
  · -- ii = 8
    subst q447_8
    refine own_S (mkF m 118 #[iv kk, .val (.int 8), rv ar, rv br] [(.ref b8)]) (fun _ k => own_ldR X418 hx hZ e418 F437 (by decide) rfl rfl (g := (mkF m 117 #[iv kk, .val (.int 8), rv ar, rv br] [(.int 8), (.ref ar)])) rfl rfl (hb hby at_117) _ k) ?_
    obtain ⟨cq464, kq464, q464a, q464b, q464c⟩ := isOf hZ e418 F436
    obtain ⟨_, _, ⟨T464, L464, k464, n464⟩, -, X464, ⟨Lc464, hQ464, l464, y464, z464⟩, st464⟩ := X418.virtualBack hx (y := own_y0) (z := own_y0) hown (mvT hZ (own_g hw (i := 24) rfl)) (mvT hZ (own_g hw (i := 25) rfl)) (notFace_of_selects (args := #[]) (mvT hZ (own_g hw (i := 27) rfl))) (mvT hZ (own_g hw (i := 27) rfl)) (mvT hZ (own_g hw (i := 26) rfl)) (by decide) (backOf (W := 0) (own_rmhs l Z a0 hw [] (b8) (b4) (b5) h418 n0 Z418 F427 F429) hZ (own_g hw (i := 28) rfl) (own_g hw (i := 4) rfl) (by decide) (by decide)) q464a q464c (g := (mkF m 118 #[iv kk, .val (.int 8), rv ar, rv br] [(.ref b8)])) rfl (by rw [hml]; rfl) (Steps.refl _) (argsL := []) (rest := []) (lenOf own_pd___Z rfl) rfl (by show 2 * 0 + _ ≤ _; exact Nat.le_of_eq rfl) (hb hby at_118) (fun _ _ => ⟨rfl, e418, (by decide : 2 + 0 ≤ _), (by decide : 18 + 0 ≤ _)⟩)
    dsimp only [Pt.U, Pt.locs, Pt.cells, Pt.slots] at X464 l464 y464 z464 st464 hQ464
    subst l464 y464 z464
    obtain ⟨rfl, N464q, e464⟩ := hQ464
    have N464 := Fr.app N418 N464q
    refine own_S (mkF m 121 #[iv kk, .val (.int 8), rv ar, rv br] [(.int (if b8 = b4 ∨ b8 = b5 then (1 : Int32) else (0 : Int32)))]) (fun _ k => st464.trans k) ?_
    refine own_S (mkF m 122 #[iv kk, .val (.int 8), rv ar, rv br] [(.ref br), (.int (if b8 = b4 ∨ b8 = b5 then (1 : Int32) else (0 : Int32)))]) (fun _ k => XS.aloadN X464.here hx rfl (hb hby at_121) rfl rfl k) ?_
    refine own_S (mkF m 123 #[iv kk, .val (.int 8), rv ar, rv br] [(.int 8), (.ref br), (.int (if b8 = b4 ∨ b8 = b5 then (1 : Int32) else (0 : Int32)))]) (fun _ k => XS.iloadN X464.here hx rfl (hb hby at_122) rfl k) ?_
    refine own_S (mkF m 124 #[iv kk, .val (.int 8), rv ar, rv br] [(.int 0), (.int (if b8 = b4 ∨ b8 = b5 then (1 : Int32) else (0 : Int32)))]) (fun _ k => own_ldZ X464 hx hZ e464 F438 (by decide) rfl (g := (mkF m 123 #[iv kk, .val (.int 8), rv ar, rv br] [(.int 8), (.ref br), (.int (if b8 = b4 ∨ b8 = b5 then (1 : Int32) else (0 : Int32)))])) rfl rfl (hb hby at_123) _ k) ?_
    have hc465 : (if b8 = b4 ∨ b8 = b5 then (1 : Int32) else (0 : Int32)) = (0 : Int32) := (by rw [if_neg (fun q => q.elim NE_b8_b4 NE_b8_b5)])
    refine own_S (mkF m 127 #[iv kk, .val (.int 8), rv ar, rv br] []) (fun _ k => XS.icmpNo X464.here hx rfl (hb hby at_124) rfl (teq hc465).2 k) ?_
    refine own_S (mkF m 128 #[iv kk, .val (.int 8), rv ar, rv br] [(.int 1)]) (fun _ k => XS.iconst X464.here hx rfl (hb hby at_127) k) ?_
    refine own_S (mkF m 132 #[iv kk, .val (.int 8), rv ar, rv br] [(.int 1)]) (fun _ k => XS.goto X464.here hx rfl (pc0 := 128) (pc' := 132) rfl (hb hby at_128) (by decide) (by decide) k) ?_
    exact own_retN X464 hx hlk (t := .boolean) hret (by simp) (hb hby at_132) (by rw [e464]; exact ⟨rfl, N464, trivial⟩) (by decide) (by decide)
set_option maxRecDepth 65536 in
set_option maxHeartbeats 40000000 in
theorem comes_1 {Post : Tables → Env → Array Value → State → Outcome → State → Prop} (hpost : ∀ tb e args s v u, (limb_1_1.after args s (.returned v) u = true ∧ limb_1_2.after args s (.returned v) u = true ∧ True) → FrameEnd s (.returned v) u (Jvm.fieldLocs frame_1_writes args s ++ Jvm.arrayLocs frame_1_arrays args s ++ Jvm.staticLocs frame_1_statics s) 16 128 → Post tb e args s (.returned v) u) :
    ArmFor flags0 classFile x code maxLocals ret World_1 tables_1 room_1 Calls_1 rest_1 Pre_1 Post := by
  intro l hfl _ _ p e ha hc hk s m args below hf hA hF happ hP
  obtain ⟨hcalls, hrest, hpre⟩ := hP
  obtain ⟨-, -, -, hnamed, -, -, -, hat⟩ := (Spec.applies_iff hf).mp happ
  obtain ⟨hg, hn⟩ := and_e (Cond.before_iff.mp (show (Jvm.Cond.and given_1 narrow_1).before args s = true from hpre))
  obtain ⟨h1, g0⟩ := and_e hg
  have k0 := g0
  obtain ⟨w0, rfl⟩ : ∃ w0 : Value, args = #[w0] := by
    have hs : args.size = 1 := by simpa [Cond.value, given_1] using h1
    obtain ⟨L⟩ := args
    match L, hs with
    | [w0], _ => exact ⟨w0, rfl⟩
  have hw := fun d (hd : d ∈ tables_1) => atoms_spec (ws := Jvm.Cond.code x code maxLocals ret :: tables_1) hat d (List.mem_cons_of_mem _ hd)
  have hfit : Fit s := fun {y c} hc i hi => by
    obtain ⟨ha, rfl⟩ := Array.getElem?_eq_some_iff.mp hc
    have q := List.all_eq_true.mp ((Array.all_eq_true_iff_forall_mem.mp hF) _ (Array.getElem_mem ha)) i (List.mem_range.mpr hi)
    simpa [Array.getElem?_eq_getElem hi] using q
  obtain ⟨i0, q0⟩ := is_v k0
  obtain rfl : w0 = (.int i0) := Option.some.inj q0
  obtain ⟨x0, hn_0⟩ := and_e hn
  obtain ⟨x1, hn_1⟩ := and_e hn_0
  obtain ⟨x2, hn_2⟩ := and_e hn_1
  obtain ⟨x3, hn_3⟩ := and_e hn_2
  obtain ⟨x4, hn_4⟩ := and_e hn_3
  obtain ⟨x5, hn_5⟩ := and_e hn_4
  obtain ⟨x6, hn_6⟩ := and_e hn_5
  obtain ⟨x7, hn_7⟩ := and_e hn_6
  obtain ⟨x8, hn_8⟩ := and_e hn_7
  obtain ⟨o0, ho_0⟩ := and_e hn_8
  obtain ⟨o4, ho_1⟩ := and_e ho_0
  obtain ⟨o5, ho_2⟩ := and_e ho_1
  obtain ⟨o3, ho_3⟩ := and_e ho_2
  obtain ⟨o2, ho_4⟩ := and_e ho_3
  obtain ⟨o1, ho_5⟩ := and_e ho_4
  obtain ⟨o7, ho_6⟩ := and_e ho_5
  obtain ⟨o8, ho_7⟩ := and_e ho_6
  have o6 := ho_7
  obtain ⟨b0, ev0⟩ := exa_v x0
  have S0 := Sta.start ev0 (Or.inr ⟨(own_g hw (i := 4) rfl), (own_g hw (i := 5) rfl)⟩)
  have E0 := Exa.start ev0 x0
  have F0 := own_fieldI ev0 o0
  obtain ⟨b1, ev1⟩ := exa_v x1
  have S1 := Sta.start ev1 (Or.inr ⟨(own_g hw (i := 4) rfl), (own_g hw (i := 8) rfl)⟩)
  have E1 := Exa.start ev1 x1
  have F1 := own_fieldI ev1 o1
  obtain ⟨b2, ev2⟩ := exa_v x2
  have S2 := Sta.start ev2 (Or.inr ⟨(own_g hw (i := 4) rfl), (own_g hw (i := 10) rfl)⟩)
  have E2 := Exa.start ev2 x2
  have F2 := own_fieldI ev2 o2
  obtain ⟨b3, ev3⟩ := exa_v x3
  have S3 := Sta.start ev3 (Or.inr ⟨(own_g hw (i := 4) rfl), (own_g hw (i := 12) rfl)⟩)
  have E3 := Exa.start ev3 x3
  have F3 := own_fieldI ev3 o3
  obtain ⟨b4, ev4⟩ := exa_v x4
  have S4 := Sta.start ev4 (Or.inr ⟨(own_g hw (i := 4) rfl), (own_g hw (i := 14) rfl)⟩)
  have E4 := Exa.start ev4 x4
  have F4 := own_fieldI ev4 o4
  obtain ⟨b5, ev5⟩ := exa_v x5
  have S5 := Sta.start ev5 (Or.inr ⟨(own_g hw (i := 4) rfl), (own_g hw (i := 16) rfl)⟩)
  have E5 := Exa.start ev5 x5
  have F5 := own_fieldI ev5 o5
  obtain ⟨b6, ev6⟩ := exa_v x6
  have S6 := Sta.start ev6 (Or.inr ⟨(own_g hw (i := 4) rfl), (own_g hw (i := 18) rfl)⟩)
  have E6 := Exa.start ev6 x6
  have F6 := own_fieldI ev6 o6
  obtain ⟨b7, ev7⟩ := exa_v x7
  have S7 := Sta.start ev7 (Or.inr ⟨(own_g hw (i := 4) rfl), (own_g hw (i := 20) rfl)⟩)
  have E7 := Exa.start ev7 x7
  have F7 := own_fieldI ev7 o7
  obtain ⟨b8, ev8⟩ := exa_v x8
  have S8 := Sta.start ev8 (Or.inr ⟨(own_g hw (i := 4) rfl), (own_g hw (i := 22) rfl)⟩)
  have E8 := Exa.start ev8 x8
  have F8 := own_fieldI ev8 o8
  obtain ⟨n, o, h1, h2, h3, _, L, rfl, ⟨rfl, N, -⟩, hq⟩ := own_rmlaw l s _ hw tables_1 i0 b0 b1 b2 b3 b4 b5 b6 b7 b8 s.heap s.heap.size (Nat.le_refl _) S0 E0 S1 E1 S2 E2 S3 E3 S4 E4 S5 E5 S6 E6 S7 E7 S8 E8 (F0.ne F4 (by decide)) (F0.ne F5 (by decide)) (F1.ne F4 (by decide)) (F1.ne F5 (by decide)) (F2.ne F4 (by decide)) (F2.ne F5 (by decide)) (F3.ne F4 (by decide)) (F3.ne F5 (by decide)) (F6.ne F4 (by decide)) (F6.ne F5 (by decide)) (F7.ne F4 (by decide)) (F7.ne F5 (by decide)) (F8.ne F4 (by decide)) (F8.ne F5 (by decide)) p e ha hc hk s m _ below hf ((Spec.applies_iff_loose hf).mp happ).1 ⟨rfl, State.Warmed39.refl s, rfl⟩ trivial
  refine ⟨n, _, h1, h2, h3, hpost _ _ _ _ _ _ ⟨Cond.after_iff.mpr rfl, Cond.after_iff.mpr (eq_i res_at (Term.int_eval (1)) rfl), trivial⟩ ⟨hq.1, hq.2.1, (hq.2.2.sift fun y hy => Or.inr (N y hy)).mono (by decide) (by decide)⟩⟩
theorem main_1_1 : Claimed_1_1 := comes_1 fun _ _ _ _ _ _ h hF => ⟨h.1, hF⟩
theorem main_1_2 : Claimed_1_2 := comes_1 fun _ _ _ _ _ _ h hF => ⟨h.2.1, hF⟩
end Jvm.Pilot.@@N@@
namespace Jvm.Pilot.@@N@@
open Jvm Jvm.ClassFile Sem Op Lib Jvm.Free Jvm.Stand Jvm.Pilot.@@N@@.Jvm.D
/-! MADE BY PROGRAM (witnessworld.py) out of the Statement's table words and the real class files: 16 classes; the members and pool entries that the words name. The judged class is class 1, her method 1. -/
namespace start1
open Jvm.ClassFile
def u (s : String) : CpInfo := .utf8 (stringToUtf16 s)
/-- a pool by its gaps: so many unusable entries, then the entry; so many at the end -/
def gap : Nat → List CpInfo → List CpInfo
  | 0, r => r
  | n + 1, r => .unusable :: gap n r
def poolList (es : List (Nat × CpInfo)) (last : Nat) : List CpInfo := es.foldr (fun e r => gap e.1 (e.2 :: r)) (gap last [])
def pool (es : List (Nat × CpInfo)) (last : Nat) : Array CpInfo := ⟨poolList es last⟩
def fileOf (pool : Array CpInfo) (this : Nat) (attrs : Array Attribute := #[]) (ms : Array MethodInfo := #[]) (fl : Nat := 33) (sup : Nat := 0) (ifs : Array Nat := #[]) (fds : Array FieldInfo := #[]) : ClassFile where
  minorVersion := 0
  majorVersion := 65
  constantPool := pool
  accessFlags := fl
  thisClass := this
  superClass := sup
  interfaces := ifs
  fields := fds
  methods := ms
  attributes := attrs
def plain (name : String) (sup : Option ClassId) : Class where
  name := name
  kind := .ordinary
  loader := none
  accessFlags := 33
  super := sup
  interfaces := #[]
  cf := none
  fields := #[]
  methods := #[]
  instanceTypes := #[]
  staticTypes := #[]
  resolved := #[]
  callSites := []
  init := .initialized
  statics := none
  mirror := none

def pool0 : Array CpInfo := pool [(5, u "<init>"), (0, u "()V"), (1, .class_ 10), (1, u "java/lang/Object")] 113

def k0m0 : Method := { name := "<init>", desc := "()V", sig := { parameters := [], returnType := none }, accessFlags := 1, code := none }
/-- java/lang/Object -/
def k0 : Class := { plain "java/lang/Object" none with
  accessFlags := 33
  interfaces := #[]
  cf := some (fileOf pool0 8 #[] #[{ accessFlags := 1, nameIndex := 5, descriptorIndex := 6, attributes := #[] }] 33 0 #[] #[])
  fields := #[]
  methods := #[k0m0]
  instanceTypes := #[]
  staticTypes := #[]
  resolved := Array.replicate 124 none
  statics := none }

def pool1 : Array CpInfo := pool [(2, .class_ 4), (1, u "java/lang/Object"), (0, u "<init>"), (0, u "()V"), (0, .integer 2147483647), (0, .class_ 9), (0, u "com/example/purgatory/purgatory/model/JobState"), (0, .fieldref 8 11), (0, .nameAndType 12 13), (0, u "PENDING"), (0, u "Lcom/example/purgatory/purgatory/model/JobState;"), (0, .fieldref 8 15), (0, .nameAndType 16 13), (0, u "RUNNING"), (0, .fieldref 8 18), (0, .nameAndType 19 13), (0, u "STOPPING"), (0, .fieldref 8 21), (0, .nameAndType 22 13), (0, u "TERMINATING"), (0, .fieldref 8 24), (0, .nameAndType 25 13), (0, u "SUSPENDED"), (0, .fieldref 8 27), (0, .nameAndType 28 13), (0, u "RESUMED"), (0, .fieldref 8 30), (0, .nameAndType 31 13), (0, u "FAULTED"), (0, .fieldref 8 33), (0, .nameAndType 34 13), (0, u "SUCCESSFUL"), (0, .fieldref 8 36), (0, .nameAndType 37 13), (0, u "STOPPED"), (0, .methodref 8 39), (0, .nameAndType 40 41), (0, u "hasBeenSuspended"), (0, u "()Z"), (0, .class_ 43), (0, u "com/example/purgatory/purgatory/model/JobStateHasBeenSuspendedPinLaw"), (2, u "law"), (0, u "(I)Z")] 7

def k1m0 : Method := { name := "<init>", desc := "()V", sig := { parameters := [], returnType := none }, accessFlags := 1, code := none }
def k1c1 : Code := { maxStack := 4, maxLocals := 4, code := code, exceptionTable := #[], attributes := #[] }
def k1m1 : Method := { name := "law", desc := "(I)Z", sig := { parameters := [.int], returnType := some .boolean }, accessFlags := 9, code := some k1c1 }
/-- com/example/purgatory/purgatory/model/JobStateHasBeenSuspendedPinLaw -/
def k1 : Class := { plain "com/example/purgatory/purgatory/model/JobStateHasBeenSuspendedPinLaw" (some 0) with
  accessFlags := 49
  interfaces := #[]
  cf := some (fileOf pool1 42 #[] #[{ accessFlags := 1, nameIndex := 5, descriptorIndex := 6, attributes := #[] }, { accessFlags := 9, nameIndex := 46, descriptorIndex := 47, attributes := #[] }] 49 2 #[] #[])
  fields := #[]
  methods := #[k1m0, k1m1]
  instanceTypes := #[]
  staticTypes := #[]
  resolved := Array.replicate 55 none
  statics := none }

def pool2 : Array CpInfo := pool [(1, .class_ 2), (0, u "java/lang/constant/Constable"), (0, .class_ 4), (0, u "java/lang/Object")] 6

/-- java/lang/constant/Constable -/
def k2 : Class := { plain "java/lang/constant/Constable" (some 0) with
  accessFlags := 1537
  interfaces := #[]
  cf := some (fileOf pool2 1 #[] #[] 1537 3 #[] #[])
  fields := #[]
  methods := #[]
  instanceTypes := #[]
  staticTypes := #[]
  resolved := Array.replicate 11 none
  statics := none }

def pool3 : Array CpInfo := pool [(1, .class_ 2), (0, u "java/lang/Comparable"), (0, .class_ 4), (0, u "java/lang/Object")] 7

/-- java/lang/Comparable -/
def k3 : Class := { plain "java/lang/Comparable" (some 0) with
  accessFlags := 1537
  interfaces := #[]
  cf := some (fileOf pool3 1 #[] #[] 1537 3 #[] #[])
  fields := #[]
  methods := #[]
  instanceTypes := #[]
  staticTypes := #[]
  resolved := Array.replicate 12 none
  statics := none }

def pool4 : Array CpInfo := pool [(1, .class_ 2), (0, u "java/io/Serializable"), (0, .class_ 4), (0, u "java/lang/Object")] 2

/-- java/io/Serializable -/
def k4 : Class := { plain "java/io/Serializable" (some 0) with
  accessFlags := 1537
  interfaces := #[]
  cf := some (fileOf pool4 1 #[] #[] 1537 3 #[] #[])
  fields := #[]
  methods := #[]
  instanceTypes := #[]
  staticTypes := #[]
  resolved := Array.replicate 7 none
  statics := none }

def pool5 : Array CpInfo := pool [(2, .class_ 4), (1, u "java/lang/Enum"), (0, u "name"), (0, u "Ljava/lang/String;"), (2, u "ordinal"), (0, u "I"), (1, .class_ 14), (1, u "java/lang/Object"), (4, u "hash"), (86, .class_ 108), (1, u "java/lang/Enum$EnumDesc"), (2, .class_ 112), (0, u "java/lang/constant/Constable"), (0, .class_ 114), (0, u "java/lang/Comparable"), (0, .class_ 116), (0, u "java/io/Serializable")] 87

/-- java/lang/Enum -/
def k5 : Class := { plain "java/lang/Enum" (some 0) with
  accessFlags := 1057
  interfaces := #[2, 3, 4]
  cf := some (fileOf pool5 2 #[.nestMembers #[106]] #[] 1057 12 #[111, 113, 115] #[{ accessFlags := 18, nameIndex := 5, descriptorIndex := 6, attributes := #[] }, { accessFlags := 18, nameIndex := 9, descriptorIndex := 10, attributes := #[] }, { accessFlags := 2, nameIndex := 19, descriptorIndex := 10, attributes := #[] }])
  fields := #[{ name := "name", type := (.object "java/lang/String"), accessFlags := 18, slot := 0, constantValue := 0 }, { name := "ordinal", type := .int, accessFlags := 18, slot := 1, constantValue := 0 }, { name := "hash", type := .int, accessFlags := 2, slot := 2, constantValue := 0 }]
  methods := #[]
  instanceTypes := #[(.object "java/lang/String"), .int, .int]
  staticTypes := #[]
  resolved := Array.replicate 204 none
  statics := none }

def pool6 : Array CpInfo := pool [(2, .class_ 4), (1, u "com/example/purgatory/purgatory/model/Named"), (18, .class_ 24), (0, u "java/lang/Object")] 11

/-- com/example/purgatory/purgatory/model/Named -/
def k6 : Class := { plain "com/example/purgatory/purgatory/model/Named" (some 0) with
  accessFlags := 1537
  interfaces := #[]
  cf := some (fileOf pool6 2 #[] #[] 1537 23 #[] #[])
  fields := #[]
  methods := #[]
  instanceTypes := #[]
  staticTypes := #[]
  resolved := Array.replicate 36 none
  statics := none }

def pool7 : Array CpInfo := pool [(1, .class_ 2), (0, u "com/example/purgatory/purgatory/model/JobState"), (2, u "PENDING"), (0, u "Lcom/example/purgatory/purgatory/model/JobState;"), (2, u "RUNNING"), (2, u "STOPPING"), (2, u "TERMINATING"), (0, .fieldref 1 17), (0, .nameAndType 18 6), (0, u "SUSPENDED"), (0, .fieldref 1 20), (0, .nameAndType 21 6), (0, u "RESUMED"), (2, u "FAULTED"), (2, u "SUCCESSFUL"), (2, u "STOPPED"), (2, u "$VALUES"), (0, u "[Lcom/example/purgatory/purgatory/model/JobState;"), (6, .class_ 43), (1, u "java/lang/Enum"), (8, u "text"), (0, u "Ljava/lang/String;"), (2, u "isFinal"), (0, u "Z"), (5, .class_ 65), (1, u "com/example/purgatory/purgatory/model/Named"), (42, u "()Z"), (0, u "hasBeenSuspended")] 9

def k7c0 : Code := { maxStack := 2, maxLocals := 1, code := prog_6_method_6_code, exceptionTable := #[], attributes := #[] }
def k7m0 : Method := { name := "hasBeenSuspended", desc := "()Z", sig := { parameters := [], returnType := some .boolean }, accessFlags := 1, code := some k7c0 }
/-- com/example/purgatory/purgatory/model/JobState -/
def k7 : Class := { plain "com/example/purgatory/purgatory/model/JobState" (some 5) with
  accessFlags := 16433
  interfaces := #[6]
  cf := some (fileOf pool7 1 #[] #[{ accessFlags := 1, nameIndex := 109, descriptorIndex := 108, attributes := #[] }] 16433 41 #[63] #[{ accessFlags := 16409, nameIndex := 5, descriptorIndex := 6, attributes := #[] }, { accessFlags := 16409, nameIndex := 9, descriptorIndex := 6, attributes := #[] }, { accessFlags := 16409, nameIndex := 12, descriptorIndex := 6, attributes := #[] }, { accessFlags := 16409, nameIndex := 15, descriptorIndex := 6, attributes := #[] }, { accessFlags := 16409, nameIndex := 18, descriptorIndex := 6, attributes := #[] }, { accessFlags := 16409, nameIndex := 21, descriptorIndex := 6, attributes := #[] }, { accessFlags := 16409, nameIndex := 24, descriptorIndex := 6, attributes := #[] }, { accessFlags := 16409, nameIndex := 27, descriptorIndex := 6, attributes := #[] }, { accessFlags := 16409, nameIndex := 30, descriptorIndex := 6, attributes := #[] }, { accessFlags := 18, nameIndex := 52, descriptorIndex := 53, attributes := #[] }, { accessFlags := 18, nameIndex := 56, descriptorIndex := 57, attributes := #[] }, { accessFlags := 4122, nameIndex := 33, descriptorIndex := 34, attributes := #[] }])
  fields := #[{ name := "PENDING", type := (.object "com/example/purgatory/purgatory/model/JobState"), accessFlags := 16409, slot := 0, constantValue := 0 }, { name := "RUNNING", type := (.object "com/example/purgatory/purgatory/model/JobState"), accessFlags := 16409, slot := 1, constantValue := 0 }, { name := "STOPPING", type := (.object "com/example/purgatory/purgatory/model/JobState"), accessFlags := 16409, slot := 2, constantValue := 0 }, { name := "TERMINATING", type := (.object "com/example/purgatory/purgatory/model/JobState"), accessFlags := 16409, slot := 3, constantValue := 0 }, { name := "SUSPENDED", type := (.object "com/example/purgatory/purgatory/model/JobState"), accessFlags := 16409, slot := 4, constantValue := 0 }, { name := "RESUMED", type := (.object "com/example/purgatory/purgatory/model/JobState"), accessFlags := 16409, slot := 5, constantValue := 0 }, { name := "FAULTED", type := (.object "com/example/purgatory/purgatory/model/JobState"), accessFlags := 16409, slot := 6, constantValue := 0 }, { name := "SUCCESSFUL", type := (.object "com/example/purgatory/purgatory/model/JobState"), accessFlags := 16409, slot := 7, constantValue := 0 }, { name := "STOPPED", type := (.object "com/example/purgatory/purgatory/model/JobState"), accessFlags := 16409, slot := 8, constantValue := 0 }, { name := "text", type := (.object "java/lang/String"), accessFlags := 18, slot := 3, constantValue := 0 }, { name := "isFinal", type := .boolean, accessFlags := 18, slot := 4, constantValue := 0 }, { name := "$VALUES", type := (.array (.object "com/example/purgatory/purgatory/model/JobState")), accessFlags := 4122, slot := 9, constantValue := 0 }]
  methods := #[k7m0]
  instanceTypes := #[(.object "java/lang/String"), .int, .int, (.object "java/lang/String"), .boolean]
  staticTypes := #[(.object "com/example/purgatory/purgatory/model/JobState"), (.object "com/example/purgatory/purgatory/model/JobState"), (.object "com/example/purgatory/purgatory/model/JobState"), (.object "com/example/purgatory/purgatory/model/JobState"), (.object "com/example/purgatory/purgatory/model/JobState"), (.object "com/example/purgatory/purgatory/model/JobState"), (.object "com/example/purgatory/purgatory/model/JobState"), (.object "com/example/purgatory/purgatory/model/JobState"), (.object "com/example/purgatory/purgatory/model/JobState"), (.array (.object "com/example/purgatory/purgatory/model/JobState"))]
  resolved := Array.replicate 119 none
  statics := some 0 }

def pool8 : Array CpInfo := pool [(1, u "java/lang/Cloneable"), (0, .class_ 1), (0, u "java/lang/Object"), (0, .class_ 3)] 3

/-- java/lang/Cloneable -/
def k8 : Class := { plain "java/lang/Cloneable" (some 0) with
  accessFlags := 1537
  interfaces := #[]
  cf := some (fileOf pool8 2 #[] #[] 1537 4 #[] #[])
  fields := #[]
  methods := #[]
  instanceTypes := #[]
  staticTypes := #[]
  resolved := Array.replicate 8 none
  statics := none }

/-- the primitive boolean -/
def k9 : Class := { plain "boolean" none with kind := .primitive 'Z', accessFlags := 0x411 }
/-- [Z -/
def k10 : Class := { plain "[Z" (some 0) with kind := .array 9 .boolean, interfaces := #[8, 4], accessFlags := 1041 }

/-- the primitive byte -/
def k11 : Class := { plain "byte" none with kind := .primitive 'B', accessFlags := 0x411 }
/-- [B -/
def k12 : Class := { plain "[B" (some 0) with kind := .array 11 .byte, interfaces := #[8, 4], accessFlags := 1041 }

/-- the primitive int -/
def k13 : Class := { plain "int" none with kind := .primitive 'I', accessFlags := 0x411 }
/-- [I -/
def k14 : Class := { plain "[I" (some 0) with kind := .array 13 .int, interfaces := #[8, 4], accessFlags := 1041 }

/-- [Lcom/example/purgatory/purgatory/model/JobState; -/
def k15 : Class := { plain "[Lcom/example/purgatory/purgatory/model/JobState;" (some 0) with kind := .array 7 (.object "com/example/purgatory/purgatory/model/JobState"), interfaces := #[8, 4], accessFlags := 1041 }

def heap : Heap := #[{ cls := 7, slots := #[.ref 1, .ref 2, .ref 3, .ref 4, .ref 5, .ref 6, .ref 7, .ref 8, .ref 9, .null], vm := .statics 7 },
  { cls := 7, slots := #[.null, .int 0, .int 0, .null, .int 0], vm := .none },
  { cls := 7, slots := #[.null, .int 1, .int 0, .null, .int 0], vm := .none },
  { cls := 7, slots := #[.null, .int 2, .int 0, .null, .int 0], vm := .none },
  { cls := 7, slots := #[.null, .int 3, .int 0, .null, .int 0], vm := .none },
  { cls := 7, slots := #[.null, .int 4, .int 0, .null, .int 0], vm := .none },
  { cls := 7, slots := #[.null, .int 5, .int 0, .null, .int 0], vm := .none },
  { cls := 7, slots := #[.null, .int 6, .int 0, .null, .int 0], vm := .none },
  { cls := 7, slots := #[.null, .int 7, .int 0, .null, .int 0], vm := .none },
  { cls := 7, slots := #[.null, .int 8, .int 0, .null, .int 0], vm := .none }]
def classes : Array Class := #[k0, k1, k2, k3, k4, k5, k6, k7, k8, k9, k10, k11, k12, k13, k14, k15]
def interned : List (Array UInt16 × Addr) := []
def slotsUsed : Nat := 55
def theMethod : MethodId := ⟨1, 1⟩
def args0 : Array Value := #[.int 5]
def aboutOver (below : List Frame) : State where
  vm := { classes := classes, interned := interned.toArray }
  heap := heap
  slotsUsed := slotsUsed
  threads := #[{ frames := .invoking theMethod args0 :: below }]
def below0 : List Frame := [.native { method := ⟨0, 0⟩, args := #[] }]
def about1 : State := aboutOver below0
def p0 : Program := .bare "" "" ""
def e0 : Env := launch0.env 0 0 0
theorem w_frames : about1.frames = Frame.invoking theMethod args0 :: below0 := rfl
set_option maxRecDepth 65536 in
theorem w_args : argsFit about1.vm theMethod args0 = true := by decide +kernel
set_option maxRecDepth 65536 in
theorem w_heap : heapFits about1 = true := by decide +kernel
set_option maxRecDepth 65536 in
theorem w_runnable : about1.curStatus? = some .runnable := by decide +kernel
set_option maxRecDepth 65536 in
theorem w_alone : about1.alone = true := by decide +kernel
set_option maxRecDepth 65536 in
theorem w_named : about1.methodNamed? x = some theMethod := by decide +kernel
set_option maxRecDepth 65536 in
theorem w_hears : about1.hears theMethod below0 = true := by decide +kernel
set_option maxRecDepth 65536 in
theorem w_ripe : about1.ripe theMethod args0 below0 = true := by decide +kernel
theorem w_running : about1.status = .running := rfl
set_option maxRecDepth 65536 in
theorem w_room : about1.hasRoom e0.platform room_1 = true :=
  launch0.hasRoom_least _ room_1 (by decide +kernel) (by decide +kernel) (by decide +kernel) (by decide +kernel) (by decide +kernel) (by decide +kernel)
theorem allAtoms_all (ts : List Jvm.Cond) (a : Array Jvm.Value) (st : Jvm.State) : (allAtoms ts).before a st = ts.all (fun c => c.before a st) := by
  induction ts with
  | nil => rfl
  | cons c t ih =>
    show (Jvm.Cond.and c (allAtoms t)).before a st = _
    rw [Jvm.Cond.before_and, ih, List.all_cons]
def words1 : List Jvm.Cond := Jvm.Cond.code x code maxLocals ret :: tables_1
/-- a 'code' word, met by the world's own term for the bytes: nothing is compared byte by byte -/
theorem code_word {y : MethodName} {bytes : ByteArray} {mx : Nat} {rt : Option FieldType} {a : Array Value} {s : State} {m : MethodId} {meth : Method} {c : Code} (h1 : s.methodNamed? y = some m) (h2 : s.vm.method? m = some meth) (h3 : meth.code = some c) (h4 : c.code = bytes)
    (h5 : (c.maxLocals == mx && c.exceptionTable.isEmpty && decide (c.maxStack ≤ mostOperands) && decide (meth.sig.returnType = rt) && !meth.locks && decide (parseMethodDescriptor y.desc = some meth.sig)) = true) : (Jvm.Cond.code y bytes mx rt).before a s = true := by
  simp only [Bool.and_eq_true, beq_iff_eq, Bool.not_eq_true', decide_eq_true_eq] at h5
  obtain ⟨⟨⟨⟨⟨g1, g2⟩, g3⟩, g4⟩, g5⟩, g6⟩ := h5
  simp [Cond.before, Cond.holds, Cond.value, h1, h2, h3, h4, g1, g2, g3, g4, g5, g6]
def isCode : Jvm.Cond → Bool
  | .code _ _ _ _ => true
  | _ => false
theorem all_split {L : List Jvm.Cond} {P : Jvm.Cond → Bool} (h1 : L.all (fun c => isCode c || P c) = true) (h2 : ∀ c ∈ L.filter isCode, P c = true) : L.all P = true := by
  refine List.all_eq_true.mpr fun c hc => ?_
  have h := List.all_eq_true.mp h1 c hc
  rcases Bool.eq_false_or_eq_true (isCode c) with hi | hi
  · exact h2 c (List.mem_filter.mpr ⟨hc, hi⟩)
  · simpa [hi] using h
set_option maxRecDepth 65536 in
theorem w_c0 : (Jvm.Cond.code x code maxLocals ret).before args0 about1 = true := code_word (m := ⟨1, 1⟩) (meth := k1m1) (c := k1c1) (by decide +kernel) rfl rfl rfl (by decide +kernel)
set_option maxRecDepth 65536 in
theorem w_c1 : (Jvm.Cond.code ({ cls := "com/example/purgatory/purgatory/model/JobState", name := "hasBeenSuspended", desc := "()Z" } : Jvm.MethodName) prog_6_method_6_code (1 : Nat) (Option.some Jvm.ClassFile.FieldType.boolean)).before args0 about1 = true := code_word (m := ⟨7, 0⟩) (meth := k7m0) (c := k7c0) (by decide +kernel) rfl rfl rfl (by decide +kernel)
def codes1 : List Jvm.Cond := [Jvm.Cond.code x code maxLocals ret, Jvm.Cond.code ({ cls := "com/example/purgatory/purgatory/model/JobState", name := "hasBeenSuspended", desc := "()Z" } : Jvm.MethodName) prog_6_method_6_code (1 : Nat) (Option.some Jvm.ClassFile.FieldType.boolean)]
set_option maxRecDepth 65536 in
theorem codes_eq : words1.filter isCode = codes1 := rfl
theorem w_codes : ∀ c ∈ words1.filter isCode, c.before args0 about1 = true := by
  rw [codes_eq]
  intro c hc
  simp only [codes1, List.mem_cons, List.not_mem_nil, or_false] at hc
  rcases hc with rfl | rfl
  · exact w_c0
  · exact w_c1
set_option maxRecDepth 65536 in
theorem w_t1 : (words1.take 24).all (fun c => isCode c || c.before args0 about1) = true := by decide +kernel
set_option maxRecDepth 65536 in
theorem w_t2 : (words1.drop 24).all (fun c => isCode c || c.before args0 about1) = true := by decide +kernel
theorem w_tables : (allAtoms (Jvm.Cond.code x code maxLocals ret :: tables_1)).before args0 about1 = true := by
  rw [allAtoms_all]
  show words1.all (fun c => c.before args0 about1) = true
  refine all_split ?_ w_codes
  rw [← List.take_append_drop 24 words1, List.all_append, w_t1, w_t2]
  rfl
set_option maxRecDepth 65536 in
theorem w_case : (Jvm.Cond.and given_1 narrow_1).before args0 about1 = true := by decide +kernel
theorem w_applies : (headSpec (Jvm.Cond.code x code maxLocals ret :: tables_1) room_1).applies x e0.platform about1 = true :=
  (Spec.applies_iff w_frames).mpr ⟨w_running, w_runnable, w_alone, w_named, w_hears, w_ripe, w_room, w_tables⟩
theorem atStart : AtStart classFile x code maxLocals ret World_1 tables_1 room_1 Calls_1 rest_1 Pre_1 launch0 p0 e0 about1 theMethod args0 below0 :=
  ⟨lists_1, trivial, launch0.admits_env _ _ _, launch0.least_env, fairChoices_fair.cas, fairChoices_fair.clock, w_frames, w_args, w_heap, w_applies, trivial, trivial, w_case⟩
end start1
theorem witness_1 : WitnessClaimed_1 := ⟨start1.p0, start1.e0, start1.about1, start1.theMethod, start1.args0, start1.below0, start1.atStart⟩
end Jvm.Pilot.@@N@@
