import JvmDerived
import JvmDerived.Pilot.@@N@@Statement
import JvmDerived.Pilot.@@N@@Code
set_option linter.unusedVariables false
set_option linter.unusedSimpArgs false
namespace Jvm.Pilot.@@N@@
open Jvm Jvm.ClassFile Sem Op Lib Jvm.Free Jvm.Stand Jvm.LawKit Jvm.RoadKit Bundle Jvm.Pilot.@@N@@.Jvm.D
theorem own_g {Z : State} {a0 : Array Value} (hw : ∀ d ∈ tables_1, d.before a0 Z = true) {i : Nat} {d : Jvm.Cond} (h : tables_1[i]? = some d) : d.before a0 Z = true := hw _ (List.mem_of_getElem? h)
/-- the walk from the frame g in the state T comes to an end of which K holds -/
def own_E (p : Program) (e : Env) (below : List Frame) (K : Outcome → State → Prop) (T : State) (g : JFrame) : Prop := ∃ s₂ o, Steps p.tables e below (T.setTop g) s₂ ∧ s₂.status = .running ∧ Ended s₂ below o ∧ K o s₂
def own_K (s : State) (Q : Option Value → Heap → List Loc → Prop) (kc ks : Nat) (o : Outcome) (U : State) : Prop := ∃ v L, o = .returned v ∧ Q v U.heap L ∧ FrameEnd s o U L kc ks
section OwnKit
variable {p : Program} {l : Launch} {e : Env} {R : Room} {s : State} {m : MethodId} {args : Array Value} {below : List Frame} {meth : Method} {c : Code} {T T' : State} {locs : List Loc} {cells slots : Nat} {K : Outcome → State → Prop} {Z : State} {h h' : Heap}
theorem own_S {g : JFrame} (g' : JFrame) (st : ∀ t, Steps p.tables e below (T'.setTop g') t → Steps p.tables e below (T.setTop g) t) (k : own_E p e below K T' g') : own_E p e below K T g := by
  obtain ⟨s₂, o, h1, h2⟩ := k
  exact ⟨s₂, o, st _ h1, h2⟩
theorem own_s {g : JFrame} {t : State} (g' : JFrame) (st : ∀ t, Steps p.tables e below (T'.setTop g') t → Steps p.tables e below (T.setTop g) t) (k : Steps p.tables e below (T'.setTop g') t) : Steps p.tables e below (T.setTop g) t := st t k
theorem own_ret {Q : Option Value → Heap → List Loc → Prop} {kc ks : Nat} (X : Stand p l e R s m args below meth c T locs cells slots) (hx : p.tables.exec = Jvm.exec) (hlk : meth.locks = false) {pc : Nat} {Ls : Array Slot} {w : Value} {t : FieldType} {i : Instr} {rest : List Value} (hret : meth.sig.returnType = some t) (hn : narrow t w = w)
    (hi : (i = .ireturn ∧ (t = .int ∨ t = .boolean ∨ t = .byte ∨ t = .char ∨ t = .short) ∧ ∃ z, w = .int z) ∨ (i = .lreturn ∧ t = .long ∧ ∃ z, w = .long z) ∨ (i = .dreturn ∧ t = .double ∧ ∃ z, w = .double z) ∨ (i = .freturn ∧ t = .float ∧ ∃ z, w = .float z) ∨ (i = .areturn ∧ t.isReference = true ∧ w.isRef = true))
    (hd : decode c.code pc = .ok (i, 1)) (hQ : Q (some w) T.heap locs) (h1 : cells ≤ kc) (h2 : slots ≤ ks) : own_E p e below (own_K s Q kc ks) T (mkF m pc Ls (w :: rest)) := by
  obtain ⟨fs, hr, hrun, hended, hW, hsame⟩ := X.leave (v := some w) (fun h => by rw [hret] at h; cases h) hlk
  exact ⟨_, _, retOut X hx hret hn hi hd hr, hrun, hended, _, _, rfl, hQ, ⟨_, rfl⟩, hW, hsame.mono h1 h2⟩
theorem own_retN {Q : Option Value → Heap → List Loc → Prop} {kc ks : Nat} (X : Stand p l e R s m args below meth c T locs cells slots) (hx : p.tables.exec = Jvm.exec) (hlk : meth.locks = false) {pc : Nat} {Ls : Array Slot} {z : Int32} {t : FieldType} {rest : List Value} (hret : meth.sig.returnType = some t) (ht : t = .boolean ∨ t = .byte ∨ t = .char ∨ t = .short)
    (hd : decode c.code pc = .ok (.ireturn, 1)) (hQ : Q (some (.int (nar t z))) T.heap locs) (h1 : cells ≤ kc) (h2 : slots ≤ ks) : own_E p e below (own_K s Q kc ks) T (mkF m pc Ls (.int z :: rest)) := by
  obtain ⟨fs, hr, hrun, hended, hW, hsame⟩ := X.leave (v := some (.int (nar t z))) (fun h => by rw [hret] at h; cases h) hlk
  exact ⟨_, _, retN X hx hret ht hd hr, hrun, hended, _, _, rfl, hQ, ⟨_, rfl⟩, hW, hsame.mono h1 h2⟩
theorem own_ret0 {Q : Option Value → Heap → List Loc → Prop} {kc ks : Nat} (X : Stand p l e R s m args below meth c T locs cells slots) (hx : p.tables.exec = Jvm.exec) (hlk : meth.locks = false) {pc : Nat} {Ls : Array Slot} (hret : meth.sig.returnType = none)
    (hd : decode c.code pc = .ok (.return_, 1)) (hQ : Q none T.heap locs) (h1 : cells ≤ kc) (h2 : slots ≤ ks) : own_E p e below (own_K s Q kc ks) T (mkF m pc Ls []) := by
  obtain ⟨fs, hr, hrun, hended, hW, hsame⟩ := X.leave (v := none) (fun _ => rfl) hlk
  exact ⟨_, _, X.returnOut hx hret hd hr, hrun, hended, _, _, rfl, hQ, ⟨_, rfl⟩, hW, hsame.mono h1 h2⟩
theorem own_weak (X : Stand p l e R s m args below meth c T locs cells slots) {locs' : List Loc} {kc ks : Nat} (hl : ∀ y ∈ locs, y ∈ locs' ∨ s.heap.size ≤ y.base) (h1 : cells ≤ kc) (h2 : slots ≤ ks) : Stand p l e R s m args below meth c T locs' kc ks :=
  { X with same := (X.same.sift hl).mono h1 h2 }
theorem Sta_keep {C n d : String} {w : Value} {ws : List Addr} {n0 : Nat} (F : Sta Z h C n d w) (K : Keep h h' ws) (hn : ∀ a ∈ ws, ∀ cell : Cell, h[a]? = some cell → cell.vm.isStatics = false) : Sta Z h' C n d w := by
  obtain ⟨cf, i, k, f, st, cell, h1, h2, h3, h4, h5, h6, h7⟩ := F
  exact ⟨cf, i, k, f, st, cell, h1, h2, h3, h4, K.2.1 st cell h5 (fun q => by have := hn st q cell h5; rw [h6] at this; cases this), h6, h7⟩
theorem Ins_keep {a : Addr} {C : String} {b : Bool} {ws : List Addr} (F : Ins Z h a C b) (K : Keep h h' ws) : Ins Z h' a C b := by
  obtain ⟨cell, cT, h1, h2, h3⟩ := F
  obtain ⟨c', q1, q2, q3, -⟩ := K.2.2 a cell h1
  exact ⟨c', cT, q1, h2, by rw [q2, q3]; exact h3⟩
end OwnKit
/-- an array whose places hold vs -/
def own_Ar (Z : State) (h : Heap) (a : Addr) (k : ClassId) (ty : FieldType) (vs : List Value) : Prop := ∃ c : Cell, Arr Z h a c ty ∧ c.cls = k ∧ c.slots = vs.toArray
section OwnArr
variable {p : Program} {l : Launch} {e : Env} {R : Room} {s : State} {m : MethodId} {args : Array Value} {below : List Frame} {meth : Method} {c : Code} {T : State} {locs : List Loc} {cells slots : Nat} {Z : State} {h h' : Heap} {a b : Addr} {k : ClassId} {ty : FieldType} {vs : List Value} {v : Value}
theorem own_Ar.lt (F : own_Ar Z h a k ty vs) : a < h.size := by obtain ⟨c, A, -⟩ := F; exact A.lt
theorem own_Ar.ext (F : own_Ar Z h a k ty vs) (E : Ext h h') : own_Ar Z h' a k ty vs := by obtain ⟨c, A, r⟩ := F; exact ⟨c, A.ext E, r⟩
theorem own_Ar.other {sl : Nat} (F : own_Ar Z h b k ty vs) (W : Wr h h' a sl v) (q : b ≠ a) : own_Ar Z h' b k ty vs := by obtain ⟨c, A, r⟩ := F; exact ⟨c, A.other W q, r⟩
theorem own_Ar.keep {ws : List Addr} (F : own_Ar Z h a k ty vs) (K : Keep h h' ws) (q : a ∉ ws) : own_Ar Z h' a k ty vs := by obtain ⟨c, A, r⟩ := F; exact ⟨c, ⟨K.2.1 a c A.1 q, A.2⟩, r⟩
theorem own_Ar.new {z : Int32} (A : Arr Z h a (newA k ty z) ty) {n : Nat} (hn : z.toNatClampNeg = n) : own_Ar Z h a k ty (List.replicate n (defaultValue ty)) := ⟨_, A, rfl, by
  subst hn
  show Array.replicate _ _ = _
  simp⟩
theorem own_Ar.set {j : Nat} (F : own_Ar Z h a k ty vs) (W : Wr h h' a j v) : own_Ar Z h' a k ty (vs.set j v) := by
  obtain ⟨c, A, hk, hs⟩ := F
  refine ⟨c.setSlot j v, A.same W, hk, ?_⟩
  show c.slots.setIfInBounds j v = _
  rw [hs]
  simp
theorem own_in {c : Cell} (hs : c.slots = vs.toArray) {j : Int32} (hj : ¬ j < 0) (hl : j.toNatClampNeg < vs.length) : ¬ (j < 0 ∨ c.slots.size ≤ j.toNatClampNeg) := by
  rw [hs]
  simp only [List.size_toArray]
  intro q
  rcases q with q | q
  · exact hj q
  · omega
theorem own_lt_of {i : Nat} (hv : vs[i]? = some v) : i < vs.length := (List.getElem?_eq_some_iff.mp hv).1
theorem own_get {c : Cell} (hs : c.slots = vs.toArray) {i : Nat} (hv : vs[i]? = some v) : c.slots[i]? = some v := by rw [hs]; simpa using hv
theorem own_ldI (X : Stand p l e R s m args below meth c T locs cells slots) (hx : p.tables.exec = Jvm.exec) (hZ : Z.Warmed39 s.vm) (eT : T.heap = h) (F : own_Ar Z h a k .int vs) {j : Int32} (hj : ¬ j < 0) (hv : vs[j.toNatClampNeg]? = some v) {g : JFrame} (hg : g.method = m) {rest : List Value} (hs : g.stack = .int j :: .ref a :: rest) (hd : decode c.code g.pc = .ok (.iaload, 1)) :
    ∀ t, Steps p.tables e below (T.setTop { g with pc := g.pc + 1, stack := v :: rest }) t → Steps p.tables e below (T.setTop g) t := fun t q => by
  obtain ⟨cl, A, -, hs'⟩ := F
  exact X.iaload hx (by rw [eT]; exact A.1) (State.isArrayOf_alike hZ.alike A.2.1) A.2.2 (own_in hs' hj (own_lt_of hv)) (own_get hs' hv) hg hs hd t q
theorem own_ldJ (X : Stand p l e R s m args below meth c T locs cells slots) (hx : p.tables.exec = Jvm.exec) (hZ : Z.Warmed39 s.vm) (eT : T.heap = h) (F : own_Ar Z h a k .long vs) {j : Int32} (hj : ¬ j < 0) (hv : vs[j.toNatClampNeg]? = some v) {g : JFrame} (hg : g.method = m) {rest : List Value} (hs : g.stack = .int j :: .ref a :: rest) (hd : decode c.code g.pc = .ok (.laload, 1)) :
    ∀ t, Steps p.tables e below (T.setTop { g with pc := g.pc + 1, stack := v :: rest }) t → Steps p.tables e below (T.setTop g) t := fun t q => by
  obtain ⟨cl, A, -, hs'⟩ := F
  exact X.laload hx (by rw [eT]; exact A.1) (State.isArrayOf_alike hZ.alike A.2.1) A.2.2 (own_in hs' hj (own_lt_of hv)) (own_get hs' hv) hg hs hd t q
theorem own_ldZ (X : Stand p l e R s m args below meth c T locs cells slots) (hx : p.tables.exec = Jvm.exec) (hZ : Z.Warmed39 s.vm) (eT : T.heap = h) (F : own_Ar Z h a k .boolean vs) {j : Int32} (hj : ¬ j < 0) (hv : vs[j.toNatClampNeg]? = some v) {g : JFrame} (hg : g.method = m) {rest : List Value} (hs : g.stack = .int j :: .ref a :: rest) (hd : decode c.code g.pc = .ok (.baload, 1)) :
    ∀ t, Steps p.tables e below (T.setTop { g with pc := g.pc + 1, stack := v :: rest }) t → Steps p.tables e below (T.setTop g) t := fun t q => by
  obtain ⟨cl, A, -, hs'⟩ := F
  exact X.baloadBooleans hx (by rw [eT]; exact A.1) (State.isArrayOf_alike hZ.alike A.2.1) A.2.2 (own_in hs' hj (own_lt_of hv)) (own_get hs' hv) hg hs hd t q
theorem own_ldR (X : Stand p l e R s m args below meth c T locs cells slots) (hx : p.tables.exec = Jvm.exec) (hZ : Z.Warmed39 s.vm) (eT : T.heap = h) (F : own_Ar Z h a k ty vs) {j : Int32} (hj : ¬ j < 0) (hv : vs[j.toNatClampNeg]? = some v) (hty : ty.isReference = true) {g : JFrame} (hg : g.method = m) {rest : List Value} (hs : g.stack = .int j :: .ref a :: rest) (hd : decode c.code g.pc = .ok (.aaload, 1)) :
    ∀ t, Steps p.tables e below (T.setTop { g with pc := g.pc + 1, stack := v :: rest }) t → Steps p.tables e below (T.setTop g) t := fun t q => by
  obtain ⟨cl, A, -, hs'⟩ := F
  exact X.aaload hx (by rw [eT]; exact A.1) (State.isArrayOf_alike hZ.alike A.2.1) hty A.2.2 (own_in hs' hj (own_lt_of hv)) (own_get hs' hv) hg hs hd t q
theorem own_alen (X : Stand p l e R s m args below meth c T locs cells slots) (hx : p.tables.exec = Jvm.exec) (hZ : Z.Warmed39 s.vm) (eT : T.heap = h) (F : own_Ar Z h a k ty vs) {g : JFrame} (hg : g.method = m) {rest : List Value} (hs : g.stack = .ref a :: rest) (hd : decode c.code g.pc = .ok (.arraylength, 1)) :
    ∀ t, Steps p.tables e below (T.setTop { g with pc := g.pc + 1, stack := .int vs.length.toInt32 :: rest }) t → Steps p.tables e below (T.setTop g) t := fun t q => by
  obtain ⟨cl, A, -, hs'⟩ := F
  have hl : cl.slots.size = vs.length := by rw [hs']; simp
  rw [← hl] at q
  exact X.arraylength hx (by rw [eT]; exact A.1) (State.isArrayOf_alike hZ.alike A.2.1) hg hs hd t q
theorem own_stI (X : Stand p l e R s m args below meth c T locs cells slots) (hx : p.tables.exec = Jvm.exec) (hZ : Z.Warmed39 s.vm) (eT : T.heap = h) (F : own_Ar Z h a k .int vs) {j x : Int32} (hj : ¬ j < 0) (hl : j.toNatClampNeg < vs.length) {g : JFrame} (hg : g.method = m) {rest : List Value} (hs : g.stack = .int x :: .int j :: .ref a :: rest) (hd : decode c.code g.pc = .ok (.iastore, 1)) :
    ∃ T' h', Stand p l e R s m args below meth c T' (locs ++ [⟨a, j.toNatClampNeg⟩]) cells slots ∧ T'.heap = h' ∧ Wr h h' a j.toNatClampNeg (.int x) ∧ own_Ar Z h' a k .int (vs.set j.toNatClampNeg (.int x)) ∧ ∀ t, Steps p.tables e below (T'.setTop { g with pc := g.pc + 1, stack := rest }) t → Steps p.tables e below (T.setTop g) t := by
  have F0 := F
  obtain ⟨cl, A, -, hs'⟩ := F
  obtain ⟨T', h', X', e', W, st⟩ := stI X hx hZ eT A (own_in hs' hj hl) hg hs hd
  exact ⟨T', h', X', e', W, F0.set W, st⟩
theorem own_stJ (X : Stand p l e R s m args below meth c T locs cells slots) (hx : p.tables.exec = Jvm.exec) (hZ : Z.Warmed39 s.vm) (eT : T.heap = h) (F : own_Ar Z h a k .long vs) {j : Int32} {x : Int64} (hj : ¬ j < 0) (hl : j.toNatClampNeg < vs.length) {g : JFrame} (hg : g.method = m) {rest : List Value} (hs : g.stack = .long x :: .int j :: .ref a :: rest) (hd : decode c.code g.pc = .ok (.lastore, 1)) :
    ∃ T' h', Stand p l e R s m args below meth c T' (locs ++ [⟨a, j.toNatClampNeg⟩]) cells slots ∧ T'.heap = h' ∧ Wr h h' a j.toNatClampNeg (.long x) ∧ own_Ar Z h' a k .long (vs.set j.toNatClampNeg (.long x)) ∧ ∀ t, Steps p.tables e below (T'.setTop { g with pc := g.pc + 1, stack := rest }) t → Steps p.tables e below (T.setTop g) t := by
  have F0 := F
  obtain ⟨cl, A, -, hs'⟩ := F
  obtain ⟨T', h', X', e', W, st⟩ := stJ X hx hZ eT A (own_in hs' hj hl) hg hs hd
  exact ⟨T', h', X', e', W, F0.set W, st⟩
theorem own_stZ (X : Stand p l e R s m args below meth c T locs cells slots) (hx : p.tables.exec = Jvm.exec) (hZ : Z.Warmed39 s.vm) (eT : T.heap = h) (F : own_Ar Z h a k .boolean vs) {j x : Int32} (hj : ¬ j < 0) (hl : j.toNatClampNeg < vs.length) {g : JFrame} (hg : g.method = m) {rest : List Value} (hs : g.stack = .int x :: .int j :: .ref a :: rest) (hd : decode c.code g.pc = .ok (.bastore, 1)) :
    ∃ T' h', Stand p l e R s m args below meth c T' (locs ++ [⟨a, j.toNatClampNeg⟩]) cells slots ∧ T'.heap = h' ∧ Wr h h' a j.toNatClampNeg (.int (nar .boolean x)) ∧ own_Ar Z h' a k .boolean (vs.set j.toNatClampNeg (.int (nar .boolean x))) ∧ ∀ t, Steps p.tables e below (T'.setTop { g with pc := g.pc + 1, stack := rest }) t → Steps p.tables e below (T.setTop g) t := by
  have F0 := F
  obtain ⟨cl, A, -, hs'⟩ := F
  obtain ⟨T', h', X', e', W, st⟩ := stZ X hx hZ eT A (own_in hs' hj hl) hg hs hd
  exact ⟨T', h', X', e', W, F0.set W, st⟩
theorem own_ldC (X : Stand p l e R s m args below meth c T locs cells slots) (hx : p.tables.exec = Jvm.exec) (hZ : Z.Warmed39 s.vm) (eT : T.heap = h) (F : own_Ar Z h a k .char vs) {j : Int32} (hj : ¬ j < 0) (hv : vs[j.toNatClampNeg]? = some v) {g : JFrame} (hg : g.method = m) {rest : List Value} (hs : g.stack = .int j :: .ref a :: rest) (hd : decode c.code g.pc = .ok (.caload, 1)) :
    ∀ t, Steps p.tables e below (T.setTop { g with pc := g.pc + 1, stack := v :: rest }) t → Steps p.tables e below (T.setTop g) t := fun t q => by
  obtain ⟨cl, A, -, hs'⟩ := F
  exact X.caload hx (by rw [eT]; exact A.1) (State.isArrayOf_alike hZ.alike A.2.1) A.2.2 (own_in hs' hj (own_lt_of hv)) (own_get hs' hv) hg hs hd t q
theorem own_stC (X : Stand p l e R s m args below meth c T locs cells slots) (hx : p.tables.exec = Jvm.exec) (hZ : Z.Warmed39 s.vm) (eT : T.heap = h) (F : own_Ar Z h a k .char vs) {j x : Int32} (hj : ¬ j < 0) (hl : j.toNatClampNeg < vs.length) {g : JFrame} (hg : g.method = m) {rest : List Value} (hs : g.stack = .int x :: .int j :: .ref a :: rest) (hd : decode c.code g.pc = .ok (.castore, 1)) :
    ∃ T' h', Stand p l e R s m args below meth c T' (locs ++ [⟨a, j.toNatClampNeg⟩]) cells slots ∧ T'.heap = h' ∧ Wr h h' a j.toNatClampNeg (.int (nar .char x)) ∧ own_Ar Z h' a k .char (vs.set j.toNatClampNeg (.int (nar .char x))) ∧ ∀ t, Steps p.tables e below (T'.setTop { g with pc := g.pc + 1, stack := rest }) t → Steps p.tables e below (T.setTop g) t := by
  have F0 := F
  obtain ⟨cl, A, -, hs'⟩ := F
  obtain ⟨T', h', X', e', W, st⟩ := stC X hx hZ eT A (own_in hs' hj hl) hg hs hd
  exact ⟨T', h', X', e', W, F0.set W, st⟩
theorem own_stB (X : Stand p l e R s m args below meth c T locs cells slots) (hx : p.tables.exec = Jvm.exec) (hZ : Z.Warmed39 s.vm) (eT : T.heap = h) (F : own_Ar Z h a k .byte vs) {j x : Int32} (hj : ¬ j < 0) (hl : j.toNatClampNeg < vs.length) {g : JFrame} (hg : g.method = m) {rest : List Value} (hs : g.stack = .int x :: .int j :: .ref a :: rest) (hd : decode c.code g.pc = .ok (.bastore, 1)) :
    ∃ T' h', Stand p l e R s m args below meth c T' (locs ++ [⟨a, j.toNatClampNeg⟩]) cells slots ∧ T'.heap = h' ∧ Wr h h' a j.toNatClampNeg (.int (nar .byte x)) ∧ own_Ar Z h' a k .byte (vs.set j.toNatClampNeg (.int (nar .byte x))) ∧ ∀ t, Steps p.tables e below (T'.setTop { g with pc := g.pc + 1, stack := rest }) t → Steps p.tables e below (T.setTop g) t := by
  have F0 := F
  obtain ⟨cl, A, -, hs'⟩ := F
  obtain ⟨T', h', X', e', W, st⟩ := stB X hx hZ eT A (own_in hs' hj hl) hg hs hd
  exact ⟨T', h', X', e', W, F0.set W, st⟩
theorem own_stR {C : String} {y : Addr} (X : Stand p l e R s m args below meth c T locs cells slots) (hx : p.tables.exec = Jvm.exec) (hZ : Z.Warmed39 s.vm) (eT : T.heap = h) (F : own_Ar Z h a k (.object C) vs) (O : Ovr Z k C) (I : Ins Z h y C true) {j : Int32} (hj : ¬ j < 0) (hl : j.toNatClampNeg < vs.length) {g : JFrame} (hg : g.method = m) {rest : List Value} (hs : g.stack = .ref y :: .int j :: .ref a :: rest) (hd : decode c.code g.pc = .ok (.aastore, 1)) :
    ∃ T' h', Stand p l e R s m args below meth c T' (locs ++ [⟨a, j.toNatClampNeg⟩]) cells slots ∧ T'.heap = h' ∧ Wr h h' a j.toNatClampNeg (.ref y) ∧ own_Ar Z h' a k (.object C) (vs.set j.toNatClampNeg (.ref y)) ∧ ∀ t, Steps p.tables e below (T'.setTop { g with pc := g.pc + 1, stack := rest }) t → Steps p.tables e below (T.setTop g) t := by
  have F0 := F
  obtain ⟨cl, A, hk, hs'⟩ := F
  obtain ⟨T', h', X', e', W, st⟩ := stR X hx hZ eT A (own_in hs' hj hl) rfl (Sto.ofV A hk O I) hg hs hd
  exact ⟨T', h', X', e', W, F0.set W, st⟩
theorem own_ar_plain (F : own_Ar Z h a k ty vs) : ∀ cell : Cell, h[a]? = some cell → cell.vm.isStatics = false := fun cell hc => by
  obtain ⟨c1, A, -⟩ := F
  cases A.1.symm.trans hc
  exact A.plain
end OwnArr
theorem own_fieldI {Z : State} {args : Array Value} {t : Term} {C n d : String} {k : Int32} {a : Addr} (ev : t.eval args Z none [] Z = some (.ref a)) (h : (Cond.eq (.field t C n d) (.int k)).value args Z none Z [] = some true) : Fld Z Z.heap a C n d (.int k) := by
  obtain ⟨x, y, h1, h2, k1, k2⟩ := cmp_v (Or.inl h)
  have hy : y = .int k := (Option.some.inj h2).symm
  subst hy
  obtain ⟨z, rfl⟩ : ∃ z, x = .int z := k2
  have hz : z = k := gotT (Cond.eq_ints h1 h2) h
  subst hz
  exact Fld.start ((fld_at ev).symm.trans h1)
theorem own_exa_plain {Z : State} {h : Heap} {a : Addr} {C : String} (F : Exa Z h a C) : ∀ cell : Cell, h[a]? = some cell → cell.vm.isStatics = false := fun cell hc => by
  obtain ⟨c1, k, h1, h2, h3, h4, h5⟩ := F
  cases h1.symm.trans hc
  exact h4
theorem own_allS {P : Addr → Prop} {y : Addr} {L : List Addr} (q : P y) (r : ∀ x ∈ L, P x) : ∀ x ∈ y :: L, P x := fun x z => (List.mem_cons.mp z).elim (fun u => u ▸ q) (r x)
def own_KW (s : State) (Q : Option Value → Heap → List Loc → Prop) (kc ks : Nat) (o : Outcome) (U : State) : Prop := ∃ v L, o = .returned v ∧ Q v U.heap L ∧ ReturnedEndW s o U L kc ks
section OwnW
variable {p : Program} {l : Launch} {e : Env} {R : Room} {s : State} {m : MethodId} {args : Array Value} {below : List Frame} {meth : Method} {c : Code} {T : State} {locs : List Loc} {cells slots : Nat}
theorem own_wide {o : Outcome} {U : State} {kc ks : Nat} (h : ReturnedEndW s o U locs cells slots) (h1 : cells ≤ kc) (h2 : slots ≤ ks) : ReturnedEndW s o U locs kc ks := ⟨h.1, h.2.1, h.2.2.1, h.2.2.2.mono h1 h2⟩
theorem own_retWN {vm₁ : Vm} {Q : Option Value → Heap → List Loc → Prop} {kc ks : Nat} (X : Stand p l e R (s.setVm vm₁) m args below meth c T locs cells slots) {n : Nat} (hS : s.Since vm₁ n) (hn : n ≤ T.heap.size) (hx : p.tables.exec = Jvm.exec) (hlk : meth.locks = false) {pc : Nat} {Ls : Array Slot} {z : Int32} {t : FieldType} {rest : List Value} (hret : meth.sig.returnType = some t) (ht : t = .boolean ∨ t = .byte ∨ t = .char ∨ t = .short)
    (hd : decode c.code pc = .ok (.ireturn, 1)) (hQ : Q (some (.int (nar t z))) T.heap locs) (h1 : cells ≤ kc) (h2 : slots ≤ ks) : own_E p e below (own_KW s Q kc ks) T (mkF m pc Ls (.int z :: rest)) := by
  obtain ⟨fs, hr, hrun, hended, hW⟩ := X.leaveW hS hn (v := some (.int (nar t z))) (fun h => by rw [hret] at h; cases h) hlk
  exact ⟨_, _, retN X hx hret ht hd hr, hrun, hended, _, _, rfl, hQ, own_wide hW h1 h2⟩
theorem own_retW0 {vm₁ : Vm} {Q : Option Value → Heap → List Loc → Prop} {kc ks : Nat} (X : Stand p l e R (s.setVm vm₁) m args below meth c T locs cells slots) {n : Nat} (hS : s.Since vm₁ n) (hn : n ≤ T.heap.size) (hx : p.tables.exec = Jvm.exec) (hlk : meth.locks = false) {pc : Nat} {Ls : Array Slot} (hret : meth.sig.returnType = none)
    (hd : decode c.code pc = .ok (.return_, 1)) (hQ : Q none T.heap locs) (h1 : cells ≤ kc) (h2 : slots ≤ ks) : own_E p e below (own_KW s Q kc ks) T (mkF m pc Ls []) := by
  obtain ⟨fs, hr, hrun, hended, hW⟩ := X.leaveW hS hn (v := none) (fun _ => rfl) hlk
  exact ⟨_, _, X.returnOut hx hret hd hr, hrun, hended, _, _, rfl, hQ, own_wide hW h1 h2⟩
end OwnW
theorem own_selP {s : State} {args : Array Value} {y : MethodName} {n : Nat} (wi : (Cond.instantiable y.cls n).before args s = true) (hp : s.PrivateAt y) (hi : (Cond.instanceMethod y).before args s = true) (hy : y.cls ≠ "java/lang/invoke/MethodHandle" ∧ y.cls ≠ "java/lang/invoke/VarHandle") : (Cond.selects y.cls y y).before args s = true := by
  obtain ⟨c, k, h1, h2, -, h4, -⟩ := Cond.instantiable_spec wi
  have hk : k.isInterface = false := by
    cases q : k.isInterface with
    | false => rfl
    | true => rw [q] at h4; cases h4
  exact selects_self_of_private h1 h2 hk hp hi hy
theorem own_dup2x1 {tb : Tables} [Ours tb] {e : Env} {below : List Frame} {T target : State} {m : MethodId} {c : Code} {g : JFrame} (h : At T m c below) (hx : tb.exec = Jvm.exec) (hg : g.method = m) {x : Int64} {y : Value} {rest : List Value} (hd : decode c.code g.pc = .ok (.dup2_x1, 1)) (hs : g.stack = .long x :: y :: rest) (hc : y.category = 1)
    (hr : Steps tb e below (T.setTop { g with pc := g.pc + 1, stack := .long x :: y :: .long x :: rest }) target) : Steps tb e below (T.setTop g) target := by
  subst hg
  jvm_step h [h.top, hx, hd, hs, hc, dup2_x1.wp_sem, Value.category]
  exact ⟨hc, hr⟩
theorem own_wS {Z : State} {a0 : Array Value} (hw : ∀ d ∈ tables_1, d.before a0 Z = true) : ∀ a ∈ Bundle.stringAtoms, a.before a0 Z = true := by
  intro d hd
  simp only [Bundle.stringAtoms, List.mem_cons, List.not_mem_nil, or_false] at hd
  rcases hd with rfl | rfl | rfl | rfl | rfl | rfl | rfl
  · exact (own_g hw (i := 26) rfl)
  · exact (own_g hw (i := 27) rfl)
  · exact (own_g hw (i := 28) rfl)
  · exact (own_g hw (i := 29) rfl)
  · exact (own_g hw (i := 30) rfl)
  · exact (own_g hw (i := 31) rfl)
  · exact (own_g hw (i := 32) rfl)
theorem own_m7 (x i : Int32) (h : i = (x &&& (2147483647 : Int32)) % (7 : Int32)) : i = 0 ∨ i = 1 ∨ i = 2 ∨ i = 3 ∨ i = 4 ∨ i = 5 ∨ i = 6 := by
  have hm := c_mask x 2147483647 31 (by decide) (by decide)
  have hi : i.toInt = ((x &&& (2147483647 : Int32)).toInt).tmod 7 := by rw [h, Int32.toInt_mod]; rfl
  have e0 : (0 : Int32).toInt = 0 := rfl
  have e1 : (1 : Int32).toInt = 1 := rfl
  have e2 : (2 : Int32).toInt = 2 := rfl
  have e3 : (3 : Int32).toInt = 3 := rfl
  have e4 : (4 : Int32).toInt = 4 := rfl
  have e5 : (5 : Int32).toInt = 5 := rfl
  have e6 : (6 : Int32).toInt = 6 := rfl
  simp only [← Int32.toInt_inj]
  rw [Int.tmod_eq_emod_of_nonneg (by omega)] at hi
  omega
theorem own_fieldR {Z : State} {args : Array Value} {t : Term} {C n d : String} {a : Addr} {v : Value} (ev : t.eval args Z none [] Z = some (.ref a)) (h : (Term.field t C n d).eval args Z none [] Z = some v) : Fld Z Z.heap a C n d v := Fld.start ((fld_at ev).symm.trans h)
theorem own_eqR {Z : State} {args : Array Value} {t u : Term} {d : Addr} (hu : u.eval args Z none [] Z = some (.ref d)) (h : (Cond.eq t u).value args Z none Z [] = some true) : t.eval args Z none [] Z = some (.ref d) := by
  obtain ⟨x, y, h1, h2, k1, k2⟩ := cmp_v (Or.inl h)
  cases hu.symm.trans h2
  have hx : x.isRef = true := k2.2
  have q := gotT (eq_R h1 h2 hx rfl) h
  rw [h1, q]
abbrev own_y0 : MethodName := ⟨"com/example/purgatory/purgatory/model/QueueRetentionPolicy", "finished", "()Lcom/example/purgatory/purgatory/model/Retention;"⟩
abbrev own_y1 : MethodName := ⟨"com/example/purgatory/purgatory/model/QueueRetentionPolicy", "unprocessed", "()Lcom/example/purgatory/purgatory/model/Retention;"⟩
abbrev own_y2 : MethodName := ⟨"com/example/purgatory/purgatory/model/Retention", "action", "()Lcom/example/purgatory/purgatory/model/RetentionAction;"⟩
abbrev own_y3 : MethodName := ⟨"com/example/purgatory/purgatory/model/RetentionAction", "writesArchive", "()Z"⟩
abbrev own_y4 : MethodName := ⟨"com/example/purgatory/purgatory/model/QueueItemStatus", "isFinal", "()Z"⟩
abbrev own_y5 : MethodName := ⟨"java/util/Objects", "requireNonNull", "(Ljava/lang/Object;Ljava/lang/String;)Ljava/lang/Object;"⟩
abbrev own_y6 : MethodName := ⟨"java/util/Objects", "requireNonNull", "(Ljava/lang/Object;)Ljava/lang/Object;"⟩
abbrev own_y7 : MethodName := ⟨"com/example/purgatory/purgatory/model/Retention", "anyWritesArchive", "([Lcom/example/purgatory/purgatory/model/Retention;)Z"⟩
abbrev own_y8 : MethodName := ⟨"com/example/purgatory/purgatory/model/Retention", "requireBucket", "(Ljava/lang/Long;[Lcom/example/purgatory/purgatory/model/Retention;)Ljava/lang/Long;"⟩
abbrev own_y9 : MethodName := ⟨"com/example/purgatory/purgatory/model/QueueRetentionPolicy", "<init>", "(Lcom/example/purgatory/purgatory/model/Retention;Lcom/example/purgatory/purgatory/model/Retention;Ljava/lang/Long;Z)V"⟩
abbrev own_y10 : MethodName := ⟨"com/example/purgatory/purgatory/model/QueueRetentionPolicyRetentionOfPinLaw", "status", "(I)Lcom/example/purgatory/purgatory/model/QueueItemStatus;"⟩
abbrev own_y11 : MethodName := ⟨"java/util/Optional", "empty", "()Ljava/util/Optional;"⟩
abbrev own_y12 : MethodName := ⟨"java/util/Optional", "<init>", "(Ljava/lang/Object;)V"⟩
abbrev own_y13 : MethodName := ⟨"java/util/Optional", "of", "(Ljava/lang/Object;)Ljava/util/Optional;"⟩
abbrev own_y14 : MethodName := ⟨"com/example/purgatory/purgatory/model/QueueRetentionPolicy", "retentionOf", "(Lcom/example/purgatory/purgatory/model/QueueItemStatus;)Ljava/util/Optional;"⟩
abbrev own_y15 : MethodName := ⟨"java/util/Optional", "isPresent", "()Z"⟩
abbrev own_y16 : MethodName := ⟨"java/util/Optional", "get", "()Ljava/lang/Object;"⟩
theorem d1_0 : decode prog_14_method_3_code 0 = .ok (.aload_n 0, 1) := by decide +kernel
theorem d1_1 : decode prog_14_method_3_code 1 = .ok (.getfield 17, 3) := by decide +kernel
theorem d1_4 : decode prog_14_method_3_code 4 = .ok (.areturn, 1) := by decide +kernel
theorem own_pf_fin : plainFor own_y0 = true := by first | exact plainFor_of_name (show plainName "com/example/purgatory/purgatory/model/QueueRetentionPolicy" = true by first | (simp [plainName, overriddenIn]; done) | decide +kernel) | decide +kernel
theorem own_ef_fin (m : MethodId) (y0 : Addr) : entryFrame m #[(.ref y0)] 1 = mkF m 0 #[rv y0] [] := by first | (simp [entryFrame, mkF, argsToLocals, Value.category]; done) | rfl
def own_Qfin (Z : State) (a : Addr) (v1 : Addr) (h0 : Heap) (n0 : Nat) (v : Option Value) (h : Heap) (L : List Loc) : Prop := v = some (.ref v1) ∧ Fr n0 L ∧ h = h0
set_option maxRecDepth 65536 in
set_option maxHeartbeats 40000000 in
theorem own_rmfin (l : Launch) (Z : State) (a0 : Array Value) (hw : ∀ d ∈ tables_1, d.before a0 Z = true) (ws : List Jvm.Cond) (a : Addr) (v1 : Addr) (h0 : Heap) (n0 : Nat) (Z0 : n0 ≤ h0.size) (P0 : Fld Z h0 a "com/example/purgatory/purgatory/model/QueueRetentionPolicy" "finished" "Lcom/example/purgatory/purgatory/model/Retention;" (.ref v1)) :
    MetFree l own_y0 (head1 (Jvm.Cond.code own_y0 prog_14_method_3_code 1 (some (.object "com/example/purgatory/purgatory/model/Retention")) :: ws) ({ frames := 0, cells := 0, slots := 0, locals := 0 } : Room)) (fun az Uz => az = #[(.ref a)] ∧ Z.Warmed39 Uz.vm ∧ Uz.heap = h0) (fun _ _ _ _ _ => True) (fun _ U o U' => ∃ v L, o = .returned v ∧ own_Qfin Z a v1 h0 n0 v U'.heap L ∧ FrameEnd U o U' L ({ frames := 0, cells := 0, slots := 0, locals := 0 } : Room).cells ({ frames := 0, cells := 0, slots := 0, locals := 0 } : Room).slots) := by
  refine MetFree.of_bodySF own_pf_fin hisR ?_
  intro p e s m args below meth c s₁ Bd hml0 hP hK
  obtain ⟨rfl, hZ, hh⟩ := hP
  have hx := Bd.exec
  have hby := Bd.bytes
  have hml : c.maxLocals = 1 := hml0
  have hown : s.vm.findClass "com/example/purgatory/purgatory/model/QueueRetentionPolicy" = some m.cls := findClass_of_methodNamed Bd.named
  have hnm := (name_of_methodNamed Bd.named Bd.method).1
  have hlk : meth.locks = false := BodyLoose.notSynchronized Bd
  have hret := Bd.returns
  have X0 : Stand p l e ({ frames := 0, cells := 0, slots := 0, locals := 0 } : Room) s m #[(.ref a)] below meth c s₁ [] 0 0 := Stand.of_body Bd
  have e0 : s₁.heap = h0 := by rw [← hh, Bd.state]; rfl
  have N0 := Fr.nil n0
  show own_E p e below (own_K s (own_Qfin Z a v1 h0 n0) ({ frames := 0, cells := 0, slots := 0, locals := 0 } : Room).cells ({ frames := 0, cells := 0, slots := 0, locals := 0 } : Room).slots) s₁ (entryFrame m #[(.ref a)] 1)
  refine own_S (mkF m 0 #[rv a] []) (fun _ k => castTop (own_ef_fin m (a)) k) ?_
  refine own_S (mkF m 1 #[rv a] [(.ref a)]) (fun _ k => XS.aloadN X0.here hx rfl (hb hby d1_0) rfl rfl k) ?_
  obtain ⟨T1, X1, e1, st1⟩ := getF X0 hx hZ hown (host := "") (Or.inl (own_g hw (i := 8) rfl)) Via.refl e0 P0 (g := (mkF m 1 #[rv a] [(.ref a)])) rfl rfl (hb hby d1_1)
  refine own_S (mkF m 4 #[rv a] [(.ref v1)]) st1 ?_
  exact own_ret X1 hx hlk (t := (.object "com/example/purgatory/purgatory/model/Retention")) hret rfl (Or.inr (Or.inr (Or.inr (Or.inr ⟨rfl, rfl, rfl⟩)))) (hb hby d1_4) (by rw [e1]; exact ⟨rfl, N0, rfl⟩) (by decide) (by decide)
theorem d2_0 : decode prog_14_method_4_code 0 = .ok (.aload_n 0, 1) := by decide +kernel
theorem d2_1 : decode prog_14_method_4_code 1 = .ok (.getfield 24, 3) := by decide +kernel
theorem d2_4 : decode prog_14_method_4_code 4 = .ok (.areturn, 1) := by decide +kernel
theorem own_pf_unp : plainFor own_y1 = true := by first | exact plainFor_of_name (show plainName "com/example/purgatory/purgatory/model/QueueRetentionPolicy" = true by first | (simp [plainName, overriddenIn]; done) | decide +kernel) | decide +kernel
theorem own_ef_unp (m : MethodId) (y0 : Addr) : entryFrame m #[(.ref y0)] 1 = mkF m 0 #[rv y0] [] := by first | (simp [entryFrame, mkF, argsToLocals, Value.category]; done) | rfl
def own_Qunp (Z : State) (a : Addr) (v1 : Addr) (h0 : Heap) (n0 : Nat) (v : Option Value) (h : Heap) (L : List Loc) : Prop := v = some (.ref v1) ∧ Fr n0 L ∧ h = h0
set_option maxRecDepth 65536 in
set_option maxHeartbeats 40000000 in
theorem own_rmunp (l : Launch) (Z : State) (a0 : Array Value) (hw : ∀ d ∈ tables_1, d.before a0 Z = true) (ws : List Jvm.Cond) (a : Addr) (v1 : Addr) (h0 : Heap) (n0 : Nat) (Z0 : n0 ≤ h0.size) (P0 : Fld Z h0 a "com/example/purgatory/purgatory/model/QueueRetentionPolicy" "unprocessed" "Lcom/example/purgatory/purgatory/model/Retention;" (.ref v1)) :
    MetFree l own_y1 (head1 (Jvm.Cond.code own_y1 prog_14_method_4_code 1 (some (.object "com/example/purgatory/purgatory/model/Retention")) :: ws) ({ frames := 0, cells := 0, slots := 0, locals := 0 } : Room)) (fun az Uz => az = #[(.ref a)] ∧ Z.Warmed39 Uz.vm ∧ Uz.heap = h0) (fun _ _ _ _ _ => True) (fun _ U o U' => ∃ v L, o = .returned v ∧ own_Qunp Z a v1 h0 n0 v U'.heap L ∧ FrameEnd U o U' L ({ frames := 0, cells := 0, slots := 0, locals := 0 } : Room).cells ({ frames := 0, cells := 0, slots := 0, locals := 0 } : Room).slots) := by
  refine MetFree.of_bodySF own_pf_unp hisR ?_
  intro p e s m args below meth c s₁ Bd hml0 hP hK
  obtain ⟨rfl, hZ, hh⟩ := hP
  have hx := Bd.exec
  have hby := Bd.bytes
  have hml : c.maxLocals = 1 := hml0
  have hown : s.vm.findClass "com/example/purgatory/purgatory/model/QueueRetentionPolicy" = some m.cls := findClass_of_methodNamed Bd.named
  have hnm := (name_of_methodNamed Bd.named Bd.method).1
  have hlk : meth.locks = false := BodyLoose.notSynchronized Bd
  have hret := Bd.returns
  have X0 : Stand p l e ({ frames := 0, cells := 0, slots := 0, locals := 0 } : Room) s m #[(.ref a)] below meth c s₁ [] 0 0 := Stand.of_body Bd
  have e0 : s₁.heap = h0 := by rw [← hh, Bd.state]; rfl
  have N0 := Fr.nil n0
  show own_E p e below (own_K s (own_Qunp Z a v1 h0 n0) ({ frames := 0, cells := 0, slots := 0, locals := 0 } : Room).cells ({ frames := 0, cells := 0, slots := 0, locals := 0 } : Room).slots) s₁ (entryFrame m #[(.ref a)] 1)
  refine own_S (mkF m 0 #[rv a] []) (fun _ k => castTop (own_ef_unp m (a)) k) ?_
  refine own_S (mkF m 1 #[rv a] [(.ref a)]) (fun _ k => XS.aloadN X0.here hx rfl (hb hby d2_0) rfl rfl k) ?_
  obtain ⟨T1, X1, e1, st1⟩ := getF X0 hx hZ hown (host := "") (Or.inl (own_g hw (i := 15) rfl)) Via.refl e0 P0 (g := (mkF m 1 #[rv a] [(.ref a)])) rfl rfl (hb hby d2_1)
  refine own_S (mkF m 4 #[rv a] [(.ref v1)]) st1 ?_
  exact own_ret X1 hx hlk (t := (.object "com/example/purgatory/purgatory/model/Retention")) hret rfl (Or.inr (Or.inr (Or.inr (Or.inr ⟨rfl, rfl, rfl⟩)))) (hb hby d2_4) (by rw [e1]; exact ⟨rfl, N0, rfl⟩) (by decide) (by decide)
theorem d8_0 : decode prog_19_method_2_code 0 = .ok (.aload_n 0, 1) := by decide +kernel
theorem d8_1 : decode prog_19_method_2_code 1 = .ok (.getfield 17, 3) := by decide +kernel
theorem d8_4 : decode prog_19_method_2_code 4 = .ok (.areturn, 1) := by decide +kernel
theorem own_pf_act : plainFor own_y2 = true := by first | exact plainFor_of_name (show plainName "com/example/purgatory/purgatory/model/Retention" = true by first | (simp [plainName, overriddenIn]; done) | decide +kernel) | decide +kernel
theorem own_ef_act (m : MethodId) (y0 : Addr) : entryFrame m #[(.ref y0)] 1 = mkF m 0 #[rv y0] [] := by first | (simp [entryFrame, mkF, argsToLocals, Value.category]; done) | rfl
def own_Qact (Z : State) (a : Addr) (v1 : Addr) (h0 : Heap) (n0 : Nat) (v : Option Value) (h : Heap) (L : List Loc) : Prop := v = some (.ref v1) ∧ Fr n0 L ∧ h = h0
set_option maxRecDepth 65536 in
set_option maxHeartbeats 40000000 in
theorem own_rmact (l : Launch) (Z : State) (a0 : Array Value) (hw : ∀ d ∈ tables_1, d.before a0 Z = true) (ws : List Jvm.Cond) (a : Addr) (v1 : Addr) (h0 : Heap) (n0 : Nat) (Z0 : n0 ≤ h0.size) (P0 : Fld Z h0 a "com/example/purgatory/purgatory/model/Retention" "action" "Lcom/example/purgatory/purgatory/model/RetentionAction;" (.ref v1)) :
    MetFree l own_y2 (head1 (Jvm.Cond.code own_y2 prog_19_method_2_code 1 (some (.object "com/example/purgatory/purgatory/model/RetentionAction")) :: ws) ({ frames := 0, cells := 0, slots := 0, locals := 0 } : Room)) (fun az Uz => az = #[(.ref a)] ∧ Z.Warmed39 Uz.vm ∧ Uz.heap = h0) (fun _ _ _ _ _ => True) (fun _ U o U' => ∃ v L, o = .returned v ∧ own_Qact Z a v1 h0 n0 v U'.heap L ∧ FrameEnd U o U' L ({ frames := 0, cells := 0, slots := 0, locals := 0 } : Room).cells ({ frames := 0, cells := 0, slots := 0, locals := 0 } : Room).slots) := by
  refine MetFree.of_bodySF own_pf_act hisR ?_
  intro p e s m args below meth c s₁ Bd hml0 hP hK
  obtain ⟨rfl, hZ, hh⟩ := hP
  have hx := Bd.exec
  have hby := Bd.bytes
  have hml : c.maxLocals = 1 := hml0
  have hown : s.vm.findClass "com/example/purgatory/purgatory/model/Retention" = some m.cls := findClass_of_methodNamed Bd.named
  have hnm := (name_of_methodNamed Bd.named Bd.method).1
  have hlk : meth.locks = false := BodyLoose.notSynchronized Bd
  have hret := Bd.returns
  have X0 : Stand p l e ({ frames := 0, cells := 0, slots := 0, locals := 0 } : Room) s m #[(.ref a)] below meth c s₁ [] 0 0 := Stand.of_body Bd
  have e0 : s₁.heap = h0 := by rw [← hh, Bd.state]; rfl
  have N0 := Fr.nil n0
  show own_E p e below (own_K s (own_Qact Z a v1 h0 n0) ({ frames := 0, cells := 0, slots := 0, locals := 0 } : Room).cells ({ frames := 0, cells := 0, slots := 0, locals := 0 } : Room).slots) s₁ (entryFrame m #[(.ref a)] 1)
  refine own_S (mkF m 0 #[rv a] []) (fun _ k => castTop (own_ef_act m (a)) k) ?_
  refine own_S (mkF m 1 #[rv a] [(.ref a)]) (fun _ k => XS.aloadN X0.here hx rfl (hb hby d8_0) rfl rfl k) ?_
  obtain ⟨T1, X1, e1, st1⟩ := getF X0 hx hZ hown (host := "") (Or.inl (own_g hw (i := 53) rfl)) Via.refl e0 P0 (g := (mkF m 1 #[rv a] [(.ref a)])) rfl rfl (hb hby d8_1)
  refine own_S (mkF m 4 #[rv a] [(.ref v1)]) st1 ?_
  exact own_ret X1 hx hlk (t := (.object "com/example/purgatory/purgatory/model/RetentionAction")) hret rfl (Or.inr (Or.inr (Or.inr (Or.inr ⟨rfl, rfl, rfl⟩)))) (hb hby d8_4) (by rw [e1]; exact ⟨rfl, N0, rfl⟩) (by decide) (by decide)
theorem d9_0 : decode prog_20_method_6_code 0 = .ok (.aload_n 0, 1) := by decide +kernel
theorem d9_1 : decode prog_20_method_6_code 1 = .ok (.getfield 40, 3) := by decide +kernel
theorem d9_4 : decode prog_20_method_6_code 4 = .ok (.ireturn, 1) := by decide +kernel
theorem own_pf_wa : plainFor own_y3 = true := by first | exact plainFor_of_name (show plainName "com/example/purgatory/purgatory/model/RetentionAction" = true by first | (simp [plainName, overriddenIn]; done) | decide +kernel) | decide +kernel
theorem own_ef_wa (m : MethodId) (y0 : Addr) : entryFrame m #[(.ref y0)] 1 = mkF m 0 #[rv y0] [] := by first | (simp [entryFrame, mkF, argsToLocals, Value.category]; done) | rfl
def own_Qwa (Z : State) (a : Addr) (h0 : Heap) (n0 : Nat) (v : Option Value) (h : Heap) (L : List Loc) : Prop := v = some (.int (0 : Int32)) ∧ Fr n0 L ∧ h = h0
set_option maxRecDepth 65536 in
set_option maxHeartbeats 40000000 in
theorem own_rmwa (l : Launch) (Z : State) (a0 : Array Value) (hw : ∀ d ∈ tables_1, d.before a0 Z = true) (ws : List Jvm.Cond) (a : Addr) (h0 : Heap) (n0 : Nat) (Z0 : n0 ≤ h0.size) (P0 : Fld Z h0 a "com/example/purgatory/purgatory/model/RetentionAction" "writesArchive" "Z" (.int (0 : Int32))) :
    MetFree l own_y3 (head1 (Jvm.Cond.code own_y3 prog_20_method_6_code 1 (some .boolean) :: ws) ({ frames := 0, cells := 0, slots := 0, locals := 0 } : Room)) (fun az Uz => az = #[(.ref a)] ∧ Z.Warmed39 Uz.vm ∧ Uz.heap = h0) (fun _ _ _ _ _ => True) (fun _ U o U' => ∃ v L, o = .returned v ∧ own_Qwa Z a h0 n0 v U'.heap L ∧ FrameEnd U o U' L ({ frames := 0, cells := 0, slots := 0, locals := 0 } : Room).cells ({ frames := 0, cells := 0, slots := 0, locals := 0 } : Room).slots) := by
  refine MetFree.of_bodySF own_pf_wa hisR ?_
  intro p e s m args below meth c s₁ Bd hml0 hP hK
  obtain ⟨rfl, hZ, hh⟩ := hP
  have hx := Bd.exec
  have hby := Bd.bytes
  have hml : c.maxLocals = 1 := hml0
  have hown : s.vm.findClass "com/example/purgatory/purgatory/model/RetentionAction" = some m.cls := findClass_of_methodNamed Bd.named
  have hnm := (name_of_methodNamed Bd.named Bd.method).1
  have hlk : meth.locks = false := BodyLoose.notSynchronized Bd
  have hret := Bd.returns
  have X0 : Stand p l e ({ frames := 0, cells := 0, slots := 0, locals := 0 } : Room) s m #[(.ref a)] below meth c s₁ [] 0 0 := Stand.of_body Bd
  have e0 : s₁.heap = h0 := by rw [← hh, Bd.state]; rfl
  have N0 := Fr.nil n0
  show own_E p e below (own_K s (own_Qwa Z a h0 n0) ({ frames := 0, cells := 0, slots := 0, locals := 0 } : Room).cells ({ frames := 0, cells := 0, slots := 0, locals := 0 } : Room).slots) s₁ (entryFrame m #[(.ref a)] 1)
  refine own_S (mkF m 0 #[rv a] []) (fun _ k => castTop (own_ef_wa m (a)) k) ?_
  refine own_S (mkF m 1 #[rv a] [(.ref a)]) (fun _ k => XS.aloadN X0.here hx rfl (hb hby d9_0) rfl rfl k) ?_
  obtain ⟨T1, X1, e1, st1⟩ := getF X0 hx hZ hown (host := "") (Or.inl (own_g hw (i := 62) rfl)) Via.refl e0 P0 (g := (mkF m 1 #[rv a] [(.ref a)])) rfl rfl (hb hby d9_1)
  refine own_S (mkF m 4 #[rv a] [(.int 0)]) st1 ?_
  exact own_retN X1 hx hlk (t := .boolean) hret (by simp) (hb hby d9_4) (by rw [e1]; exact ⟨rfl, N0, rfl⟩) (by decide) (by decide)
theorem d13_0 : decode prog_13_method_5_code 0 = .ok (.aload_n 0, 1) := by decide +kernel
theorem d13_1 : decode prog_13_method_5_code 1 = .ok (.getfield 48, 3) := by decide +kernel
theorem d13_4 : decode prog_13_method_5_code 4 = .ok (.ireturn, 1) := by decide +kernel
theorem own_pf_if0 : plainFor own_y4 = true := by first | exact plainFor_of_name (show plainName "com/example/purgatory/purgatory/model/QueueItemStatus" = true by first | (simp [plainName, overriddenIn]; done) | decide +kernel) | decide +kernel
theorem own_ef_if0 (m : MethodId) (y0 : Addr) : entryFrame m #[(.ref y0)] 1 = mkF m 0 #[rv y0] [] := by first | (simp [entryFrame, mkF, argsToLocals, Value.category]; done) | rfl
def own_Qif0 (Z : State) (a : Addr) (h0 : Heap) (n0 : Nat) (v : Option Value) (h : Heap) (L : List Loc) : Prop := v = some (.int (0 : Int32)) ∧ Fr n0 L ∧ h = h0
set_option maxRecDepth 65536 in
set_option maxHeartbeats 40000000 in
theorem own_rmif0 (l : Launch) (Z : State) (a0 : Array Value) (hw : ∀ d ∈ tables_1, d.before a0 Z = true) (ws : List Jvm.Cond) (a : Addr) (h0 : Heap) (n0 : Nat) (Z0 : n0 ≤ h0.size) (P0 : Fld Z h0 a "com/example/purgatory/purgatory/model/QueueItemStatus" "isFinal" "Z" (.int (0 : Int32))) :
    MetFree l own_y4 (head1 (Jvm.Cond.code own_y4 prog_13_method_5_code 1 (some .boolean) :: ws) ({ frames := 0, cells := 0, slots := 0, locals := 0 } : Room)) (fun az Uz => az = #[(.ref a)] ∧ Z.Warmed39 Uz.vm ∧ Uz.heap = h0) (fun _ _ _ _ _ => True) (fun _ U o U' => ∃ v L, o = .returned v ∧ own_Qif0 Z a h0 n0 v U'.heap L ∧ FrameEnd U o U' L ({ frames := 0, cells := 0, slots := 0, locals := 0 } : Room).cells ({ frames := 0, cells := 0, slots := 0, locals := 0 } : Room).slots) := by
  refine MetFree.of_bodySF own_pf_if0 hisR ?_
  intro p e s m args below meth c s₁ Bd hml0 hP hK
  obtain ⟨rfl, hZ, hh⟩ := hP
  have hx := Bd.exec
  have hby := Bd.bytes
  have hml : c.maxLocals = 1 := hml0
  have hown : s.vm.findClass "com/example/purgatory/purgatory/model/QueueItemStatus" = some m.cls := findClass_of_methodNamed Bd.named
  have hnm := (name_of_methodNamed Bd.named Bd.method).1
  have hlk : meth.locks = false := BodyLoose.notSynchronized Bd
  have hret := Bd.returns
  have X0 : Stand p l e ({ frames := 0, cells := 0, slots := 0, locals := 0 } : Room) s m #[(.ref a)] below meth c s₁ [] 0 0 := Stand.of_body Bd
  have e0 : s₁.heap = h0 := by rw [← hh, Bd.state]; rfl
  have N0 := Fr.nil n0
  show own_E p e below (own_K s (own_Qif0 Z a h0 n0) ({ frames := 0, cells := 0, slots := 0, locals := 0 } : Room).cells ({ frames := 0, cells := 0, slots := 0, locals := 0 } : Room).slots) s₁ (entryFrame m #[(.ref a)] 1)
  refine own_S (mkF m 0 #[rv a] []) (fun _ k => castTop (own_ef_if0 m (a)) k) ?_
  refine own_S (mkF m 1 #[rv a] [(.ref a)]) (fun _ k => XS.aloadN X0.here hx rfl (hb hby d13_0) rfl rfl k) ?_
  obtain ⟨T1, X1, e1, st1⟩ := getF X0 hx hZ hown (host := "") (Or.inl (own_g hw (i := 91) rfl)) Via.refl e0 P0 (g := (mkF m 1 #[rv a] [(.ref a)])) rfl rfl (hb hby d13_1)
  refine own_S (mkF m 4 #[rv a] [(.int 0)]) st1 ?_
  exact own_retN X1 hx hlk (t := .boolean) hret (by simp) (hb hby d13_4) (by rw [e1]; exact ⟨rfl, N0, rfl⟩) (by decide) (by decide)
theorem own_pf_if1 : plainFor own_y4 = true := by first | exact plainFor_of_name (show plainName "com/example/purgatory/purgatory/model/QueueItemStatus" = true by first | (simp [plainName, overriddenIn]; done) | decide +kernel) | decide +kernel
theorem own_ef_if1 (m : MethodId) (y0 : Addr) : entryFrame m #[(.ref y0)] 1 = mkF m 0 #[rv y0] [] := by first | (simp [entryFrame, mkF, argsToLocals, Value.category]; done) | rfl
def own_Qif1 (Z : State) (a : Addr) (h0 : Heap) (n0 : Nat) (v : Option Value) (h : Heap) (L : List Loc) : Prop := v = some (.int (1 : Int32)) ∧ Fr n0 L ∧ h = h0
set_option maxRecDepth 65536 in
set_option maxHeartbeats 40000000 in
theorem own_rmif1 (l : Launch) (Z : State) (a0 : Array Value) (hw : ∀ d ∈ tables_1, d.before a0 Z = true) (ws : List Jvm.Cond) (a : Addr) (h0 : Heap) (n0 : Nat) (Z0 : n0 ≤ h0.size) (P0 : Fld Z h0 a "com/example/purgatory/purgatory/model/QueueItemStatus" "isFinal" "Z" (.int (1 : Int32))) :
    MetFree l own_y4 (head1 (Jvm.Cond.code own_y4 prog_13_method_5_code 1 (some .boolean) :: ws) ({ frames := 0, cells := 0, slots := 0, locals := 0 } : Room)) (fun az Uz => az = #[(.ref a)] ∧ Z.Warmed39 Uz.vm ∧ Uz.heap = h0) (fun _ _ _ _ _ => True) (fun _ U o U' => ∃ v L, o = .returned v ∧ own_Qif1 Z a h0 n0 v U'.heap L ∧ FrameEnd U o U' L ({ frames := 0, cells := 0, slots := 0, locals := 0 } : Room).cells ({ frames := 0, cells := 0, slots := 0, locals := 0 } : Room).slots) := by
  refine MetFree.of_bodySF own_pf_if1 hisR ?_
  intro p e s m args below meth c s₁ Bd hml0 hP hK
  obtain ⟨rfl, hZ, hh⟩ := hP
  have hx := Bd.exec
  have hby := Bd.bytes
  have hml : c.maxLocals = 1 := hml0
  have hown : s.vm.findClass "com/example/purgatory/purgatory/model/QueueItemStatus" = some m.cls := findClass_of_methodNamed Bd.named
  have hnm := (name_of_methodNamed Bd.named Bd.method).1
  have hlk : meth.locks = false := BodyLoose.notSynchronized Bd
  have hret := Bd.returns
  have X0 : Stand p l e ({ frames := 0, cells := 0, slots := 0, locals := 0 } : Room) s m #[(.ref a)] below meth c s₁ [] 0 0 := Stand.of_body Bd
  have e0 : s₁.heap = h0 := by rw [← hh, Bd.state]; rfl
  have N0 := Fr.nil n0
  show own_E p e below (own_K s (own_Qif1 Z a h0 n0) ({ frames := 0, cells := 0, slots := 0, locals := 0 } : Room).cells ({ frames := 0, cells := 0, slots := 0, locals := 0 } : Room).slots) s₁ (entryFrame m #[(.ref a)] 1)
  refine own_S (mkF m 0 #[rv a] []) (fun _ k => castTop (own_ef_if1 m (a)) k) ?_
  refine own_S (mkF m 1 #[rv a] [(.ref a)]) (fun _ k => XS.aloadN X0.here hx rfl (hb hby d13_0) rfl rfl k) ?_
  obtain ⟨T1, X1, e1, st1⟩ := getF X0 hx hZ hown (host := "") (Or.inl (own_g hw (i := 91) rfl)) Via.refl e0 P0 (g := (mkF m 1 #[rv a] [(.ref a)])) rfl rfl (hb hby d13_1)
  refine own_S (mkF m 4 #[rv a] [(.int 1)]) st1 ?_
  exact own_retN X1 hx hlk (t := .boolean) hret (by simp) (hb hby d13_4) (by rw [e1]; exact ⟨rfl, N0, rfl⟩) (by decide) (by decide)
theorem d5_0 : decode jdk_31_method_11_code 0 = .ok (.aload_n 0, 1) := by decide +kernel
theorem d5_1 : decode jdk_31_method_11_code 1 = .ok (.ifnonnull 12, 3) := by decide +kernel
theorem d5_13 : decode jdk_31_method_11_code 13 = .ok (.aload_n 0, 1) := by decide +kernel
theorem d5_14 : decode jdk_31_method_11_code 14 = .ok (.areturn, 1) := by decide +kernel
theorem own_pf_rn2 : plainFor own_y5 = true := by first | exact plainFor_of_name (show plainName "java/util/Objects" = true by first | (simp [plainName, overriddenIn]; done) | decide +kernel) | decide +kernel
theorem own_ef_rn2 (m : MethodId) (y0 : Addr) (y1 : Addr) : entryFrame m #[(.ref y0), (.ref y1)] 2 = mkF m 0 #[rv y0, rv y1] [] := by first | (simp [entryFrame, mkF, argsToLocals, Value.category]; done) | rfl
def own_Qrn2 (Z : State) (a : Addr) (b : Addr) (h0 : Heap) (n0 : Nat) (v : Option Value) (h : Heap) (L : List Loc) : Prop := v = some (.ref a) ∧ Fr n0 L ∧ h = h0
set_option maxRecDepth 65536 in
set_option maxHeartbeats 40000000 in
theorem own_rmrn2 (l : Launch) (Z : State) (a0 : Array Value) (hw : ∀ d ∈ tables_1, d.before a0 Z = true) (ws : List Jvm.Cond) (a : Addr) (b : Addr) (h0 : Heap) (n0 : Nat) (Z0 : n0 ≤ h0.size)  :
    MetFree l own_y5 (head1 (Jvm.Cond.code own_y5 jdk_31_method_11_code 2 (some (.object "java/lang/Object")) :: ws) ({ frames := 0, cells := 0, slots := 0, locals := 0 } : Room)) (fun az Uz => az = #[(.ref a), (.ref b)] ∧ Z.Warmed39 Uz.vm ∧ Uz.heap = h0) (fun _ _ _ _ _ => True) (fun _ U o U' => ∃ v L, o = .returned v ∧ own_Qrn2 Z a b h0 n0 v U'.heap L ∧ FrameEnd U o U' L ({ frames := 0, cells := 0, slots := 0, locals := 0 } : Room).cells ({ frames := 0, cells := 0, slots := 0, locals := 0 } : Room).slots) := by
  refine MetFree.of_bodySF own_pf_rn2 hisR ?_
  intro p e s m args below meth c s₁ Bd hml0 hP hK
  obtain ⟨rfl, hZ, hh⟩ := hP
  have hx := Bd.exec
  have hby := Bd.bytes
  have hml : c.maxLocals = 2 := hml0
  have hown : s.vm.findClass "java/util/Objects" = some m.cls := findClass_of_methodNamed Bd.named
  have hnm := (name_of_methodNamed Bd.named Bd.method).1
  have hlk : meth.locks = false := BodyLoose.notSynchronized Bd
  have hret := Bd.returns
  have X0 : Stand p l e ({ frames := 0, cells := 0, slots := 0, locals := 0 } : Room) s m #[(.ref a), (.ref b)] below meth c s₁ [] 0 0 := Stand.of_body Bd
  have e0 : s₁.heap = h0 := by rw [← hh, Bd.state]; rfl
  have N0 := Fr.nil n0
  show own_E p e below (own_K s (own_Qrn2 Z a b h0 n0) ({ frames := 0, cells := 0, slots := 0, locals := 0 } : Room).cells ({ frames := 0, cells := 0, slots := 0, locals := 0 } : Room).slots) s₁ (entryFrame m #[(.ref a), (.ref b)] 2)
  refine own_S (mkF m 0 #[rv a, rv b] []) (fun _ k => castTop (own_ef_rn2 m (a) (b)) k) ?_
  refine own_S (mkF m 1 #[rv a, rv b] [(.ref a)]) (fun _ k => XS.aloadN X0.here hx rfl (hb hby d5_0) rfl rfl k) ?_
  refine own_S (mkF m 13 #[rv a, rv b] []) (fun _ k => XS.ifnonnullYes X0.here hx rfl (pc0 := 1) (pc' := 13) rfl (hb hby d5_1) rfl (by decide) (by decide) k) ?_
  refine own_S (mkF m 14 #[rv a, rv b] [(.ref a)]) (fun _ k => XS.aloadN X0.here hx rfl (hb hby d5_13) rfl rfl k) ?_
  exact own_ret X0 hx hlk (t := (.object "java/lang/Object")) hret rfl (Or.inr (Or.inr (Or.inr (Or.inr ⟨rfl, rfl, rfl⟩)))) (hb hby d5_14) (by rw [e0]; exact ⟨rfl, N0, rfl⟩) (by decide) (by decide)
theorem d15_0 : decode jdk_31_method_10_code 0 = .ok (.aload_n 0, 1) := by decide +kernel
theorem d15_1 : decode jdk_31_method_10_code 1 = .ok (.ifnonnull 11, 3) := by decide +kernel
theorem d15_12 : decode jdk_31_method_10_code 12 = .ok (.aload_n 0, 1) := by decide +kernel
theorem d15_13 : decode jdk_31_method_10_code 13 = .ok (.areturn, 1) := by decide +kernel
theorem own_pf_rn1 : plainFor own_y6 = true := by first | exact plainFor_of_name (show plainName "java/util/Objects" = true by first | (simp [plainName, overriddenIn]; done) | decide +kernel) | decide +kernel
theorem own_ef_rn1 (m : MethodId) (y0 : Addr) : entryFrame m #[(.ref y0)] 1 = mkF m 0 #[rv y0] [] := by first | (simp [entryFrame, mkF, argsToLocals, Value.category]; done) | rfl
def own_Qrn1 (Z : State) (a : Addr) (h0 : Heap) (n0 : Nat) (v : Option Value) (h : Heap) (L : List Loc) : Prop := v = some (.ref a) ∧ Fr n0 L ∧ h = h0
set_option maxRecDepth 65536 in
set_option maxHeartbeats 40000000 in
theorem own_rmrn1 (l : Launch) (Z : State) (a0 : Array Value) (hw : ∀ d ∈ tables_1, d.before a0 Z = true) (ws : List Jvm.Cond) (a : Addr) (h0 : Heap) (n0 : Nat) (Z0 : n0 ≤ h0.size)  :
    MetFree l own_y6 (head1 (Jvm.Cond.code own_y6 jdk_31_method_10_code 1 (some (.object "java/lang/Object")) :: ws) ({ frames := 0, cells := 0, slots := 0, locals := 0 } : Room)) (fun az Uz => az = #[(.ref a)] ∧ Z.Warmed39 Uz.vm ∧ Uz.heap = h0) (fun _ _ _ _ _ => True) (fun _ U o U' => ∃ v L, o = .returned v ∧ own_Qrn1 Z a h0 n0 v U'.heap L ∧ FrameEnd U o U' L ({ frames := 0, cells := 0, slots := 0, locals := 0 } : Room).cells ({ frames := 0, cells := 0, slots := 0, locals := 0 } : Room).slots) := by
  refine MetFree.of_bodySF own_pf_rn1 hisR ?_
  intro p e s m args below meth c s₁ Bd hml0 hP hK
  obtain ⟨rfl, hZ, hh⟩ := hP
  have hx := Bd.exec
  have hby := Bd.bytes
  have hml : c.maxLocals = 1 := hml0
  have hown : s.vm.findClass "java/util/Objects" = some m.cls := findClass_of_methodNamed Bd.named
  have hnm := (name_of_methodNamed Bd.named Bd.method).1
  have hlk : meth.locks = false := BodyLoose.notSynchronized Bd
  have hret := Bd.returns
  have X0 : Stand p l e ({ frames := 0, cells := 0, slots := 0, locals := 0 } : Room) s m #[(.ref a)] below meth c s₁ [] 0 0 := Stand.of_body Bd
  have e0 : s₁.heap = h0 := by rw [← hh, Bd.state]; rfl
  have N0 := Fr.nil n0
  show own_E p e below (own_K s (own_Qrn1 Z a h0 n0) ({ frames := 0, cells := 0, slots := 0, locals := 0 } : Room).cells ({ frames := 0, cells := 0, slots := 0, locals := 0 } : Room).slots) s₁ (entryFrame m #[(.ref a)] 1)
  refine own_S (mkF m 0 #[rv a] []) (fun _ k => castTop (own_ef_rn1 m (a)) k) ?_
  refine own_S (mkF m 1 #[rv a] [(.ref a)]) (fun _ k => XS.aloadN X0.here hx rfl (hb hby d15_0) rfl rfl k) ?_
  refine own_S (mkF m 12 #[rv a] []) (fun _ k => XS.ifnonnullYes X0.here hx rfl (pc0 := 1) (pc' := 12) rfl (hb hby d15_1) rfl (by decide) (by decide) k) ?_
  refine own_S (mkF m 13 #[rv a] [(.ref a)]) (fun _ k => XS.aloadN X0.here hx rfl (hb hby d15_12) rfl rfl k) ?_
  exact own_ret X0 hx hlk (t := (.object "java/lang/Object")) hret rfl (Or.inr (Or.inr (Or.inr (Or.inr ⟨rfl, rfl, rfl⟩)))) (hb hby d15_13) (by rw [e0]; exact ⟨rfl, N0, rfl⟩) (by decide) (by decide)
theorem d7_0 : decode prog_19_method_3_code 0 = .ok (.aload_n 0, 1) := by decide +kernel
theorem d7_1 : decode prog_19_method_3_code 1 = .ok (.astore_n 1, 1) := by decide +kernel
theorem d7_2 : decode prog_19_method_3_code 2 = .ok (.aload_n 1, 1) := by decide +kernel
theorem d7_3 : decode prog_19_method_3_code 3 = .ok (.arraylength, 1) := by decide +kernel
theorem d7_4 : decode prog_19_method_3_code 4 = .ok (.istore_n 2, 1) := by decide +kernel
theorem d7_5 : decode prog_19_method_3_code 5 = .ok (.iconst 0, 1) := by decide +kernel
theorem d7_6 : decode prog_19_method_3_code 6 = .ok (.istore_n 3, 1) := by decide +kernel
theorem d7_7 : decode prog_19_method_3_code 7 = .ok (.iload_n 3, 1) := by decide +kernel
theorem d7_8 : decode prog_19_method_3_code 8 = .ok (.iload_n 2, 1) := by decide +kernel
theorem d7_9 : decode prog_19_method_3_code 9 = .ok (.if_icmp .ge 27, 3) := by decide +kernel
theorem d7_12 : decode prog_19_method_3_code 12 = .ok (.aload_n 1, 1) := by decide +kernel
theorem d7_13 : decode prog_19_method_3_code 13 = .ok (.iload_n 3, 1) := by decide +kernel
theorem d7_14 : decode prog_19_method_3_code 14 = .ok (.aaload, 1) := by decide +kernel
theorem d7_15 : decode prog_19_method_3_code 15 = .ok (.astore 4, 2) := by decide +kernel
theorem d7_17 : decode prog_19_method_3_code 17 = .ok (.aload 4, 2) := by decide +kernel
theorem d7_19 : decode prog_19_method_3_code 19 = .ok (.invokevirtual 68, 3) := by decide +kernel
theorem d7_22 : decode prog_19_method_3_code 22 = .ok (.invokevirtual 71, 3) := by decide +kernel
theorem d7_25 : decode prog_19_method_3_code 25 = .ok (.ifCond .eq 5, 3) := by decide +kernel
theorem d7_30 : decode prog_19_method_3_code 30 = .ok (.iinc 3 1, 3) := by decide +kernel
theorem d7_33 : decode prog_19_method_3_code 33 = .ok (.goto (-26), 3) := by decide +kernel
theorem d7_36 : decode prog_19_method_3_code 36 = .ok (.iconst 0, 1) := by decide +kernel
theorem d7_37 : decode prog_19_method_3_code 37 = .ok (.ireturn, 1) := by decide +kernel
theorem own_pd___Lcom_example_purgatory_purgatory_model_RetentionAction_ : parseMethodDescriptor "()Lcom/example/purgatory/purgatory/model/RetentionAction;" = some ⟨[], (some (.object "com/example/purgatory/purgatory/model/RetentionAction"))⟩ := by decide +kernel
theorem own_pd___Z : parseMethodDescriptor "()Z" = some ⟨[], (some .boolean)⟩ := by decide +kernel
theorem own_pf_aw : plainFor own_y7 = true := by first | exact plainFor_of_name (show plainName "com/example/purgatory/purgatory/model/Retention" = true by first | (simp [plainName, overriddenIn]; done) | decide +kernel) | decide +kernel
theorem own_ef_aw (m : MethodId) (y0 : Addr) : entryFrame m #[(.ref y0)] 5 = mkF m 0 #[rv y0, .unset, .unset, .unset, .unset] [] := by first | (simp [entryFrame, mkF, argsToLocals, Value.category]; done) | rfl
def own_Qaw (Z : State) (ra : Addr) (kr : ClassId) (fi : Addr) (un : Addr) (dl : Addr) (h0 : Heap) (n0 : Nat) (v : Option Value) (h : Heap) (L : List Loc) : Prop := v = some (.int (0 : Int32)) ∧ Fr n0 L ∧ h = h0
set_option maxRecDepth 65536 in
set_option maxHeartbeats 40000000 in
theorem own_rmaw (l : Launch) (Z : State) (a0 : Array Value) (hw : ∀ d ∈ tables_1, d.before a0 Z = true) (ws : List Jvm.Cond) (ra : Addr) (kr : ClassId) (fi : Addr) (un : Addr) (dl : Addr) (h0 : Heap) (n0 : Nat) (Z0 : n0 ≤ h0.size) (P0 : own_Ar Z h0 ra kr (.object "com/example/purgatory/purgatory/model/Retention") [(.ref fi), (.ref un)]) (P1 : Exa Z h0 fi "com/example/purgatory/purgatory/model/Retention") (P2 : Exa Z h0 un "com/example/purgatory/purgatory/model/Retention") (P3 : Fld Z h0 fi "com/example/purgatory/purgatory/model/Retention" "action" "Lcom/example/purgatory/purgatory/model/RetentionAction;" (.ref dl)) (P4 : Fld Z h0 un "com/example/purgatory/purgatory/model/Retention" "action" "Lcom/example/purgatory/purgatory/model/RetentionAction;" (.ref dl)) (P5 : Exa Z h0 dl "com/example/purgatory/purgatory/model/RetentionAction") (P6 : Fld Z h0 dl "com/example/purgatory/purgatory/model/RetentionAction" "writesArchive" "Z" (.int (0 : Int32))) :
    MetFree l own_y7 (head1 (Jvm.Cond.code own_y7 prog_19_method_3_code 5 (some .boolean) :: ws) ({ frames := 1, cells := 0, slots := 0, locals := 12 } : Room)) (fun az Uz => az = #[(.ref ra)] ∧ Z.Warmed39 Uz.vm ∧ Uz.heap = h0) (fun _ _ _ _ _ => True) (fun _ U o U' => ∃ v L, o = .returned v ∧ own_Qaw Z ra kr fi un dl h0 n0 v U'.heap L ∧ FrameEnd U o U' L ({ frames := 1, cells := 0, slots := 0, locals := 12 } : Room).cells ({ frames := 1, cells := 0, slots := 0, locals := 12 } : Room).slots) := by
  refine MetFree.of_bodySF own_pf_aw hisR ?_
  intro p e s m args below meth c s₁ Bd hml0 hP hK
  obtain ⟨rfl, hZ, hh⟩ := hP
  have hx := Bd.exec
  have hby := Bd.bytes
  have hml : c.maxLocals = 5 := hml0
  have hown : s.vm.findClass "com/example/purgatory/purgatory/model/Retention" = some m.cls := findClass_of_methodNamed Bd.named
  have hnm := (name_of_methodNamed Bd.named Bd.method).1
  have hlk : meth.locks = false := BodyLoose.notSynchronized Bd
  have hret := Bd.returns
  have X0 : Stand p l e ({ frames := 1, cells := 0, slots := 0, locals := 12 } : Room) s m #[(.ref ra)] below meth c s₁ [] 0 0 := Stand.of_body Bd
  have e0 : s₁.heap = h0 := by rw [← hh, Bd.state]; rfl
  have N0 := Fr.nil n0
  show own_E p e below (own_K s (own_Qaw Z ra kr fi un dl h0 n0) ({ frames := 1, cells := 0, slots := 0, locals := 12 } : Room).cells ({ frames := 1, cells := 0, slots := 0, locals := 12 } : Room).slots) s₁ (entryFrame m #[(.ref ra)] 5)
  refine own_S (mkF m 0 #[rv ra, .unset, .unset, .unset, .unset] []) (fun _ k => castTop (own_ef_aw m (ra)) k) ?_
  refine own_S (mkF m 1 #[rv ra, .unset, .unset, .unset, .unset] [(.ref ra)]) (fun _ k => XS.aloadN X0.here hx rfl (hb hby d7_0) rfl rfl k) ?_
  refine own_S (mkF m 2 #[rv ra, rv ra, .unset, .unset, .unset] []) (fun _ k => XS.astoreN X0.here hx rfl (hb hby d7_1) rfl rfl (l' := #[rv ra, rv ra, .unset, .unset, .unset]) rfl k) ?_
  refine own_S (mkF m 3 #[rv ra, rv ra, .unset, .unset, .unset] [(.ref ra)]) (fun _ k => XS.aloadN X0.here hx rfl (hb hby d7_2) rfl rfl k) ?_
  refine own_S (mkF m 4 #[rv ra, rv ra, .unset, .unset, .unset] [(.int 2)]) (fun _ k => own_alen X0 hx hZ e0 P0 (g := (mkF m 3 #[rv ra, rv ra, .unset, .unset, .unset] [(.ref ra)])) rfl rfl (hb hby d7_3) _ k) ?_
  refine own_S (mkF m 5 #[rv ra, rv ra, .val (.int 2), .unset, .unset] []) (fun _ k => XS.istoreN X0.here hx rfl (hb hby d7_4) rfl (l' := #[rv ra, rv ra, .val (.int 2), .unset, .unset]) rfl k) ?_
  refine own_S (mkF m 6 #[rv ra, rv ra, .val (.int 2), .unset, .unset] [(.int 0)]) (fun _ k => XS.iconst X0.here hx rfl (hb hby d7_5) k) ?_
  refine own_S (mkF m 7 #[rv ra, rv ra, .val (.int 2), .val (.int 0), .unset] []) (fun _ k => XS.istoreN X0.here hx rfl (hb hby d7_6) rfl (l' := #[rv ra, rv ra, .val (.int 2), .val (.int 0), .unset]) rfl k) ?_
  refine own_S (mkF m 8 #[rv ra, rv ra, .val (.int 2), .val (.int 0), .unset] [(.int 0)]) (fun _ k => XS.iloadN X0.here hx rfl (hb hby d7_7) rfl k) ?_
  refine own_S (mkF m 9 #[rv ra, rv ra, .val (.int 2), .val (.int 0), .unset] [(.int 2), (.int 0)]) (fun _ k => XS.iloadN X0.here hx rfl (hb hby d7_8) rfl k) ?_
  have hc1 : (0 : Int32) < (2 : Int32) := by decide
  refine own_S (mkF m 12 #[rv ra, rv ra, .val (.int 2), .val (.int 0), .unset] []) (fun _ k => XS.icmpNo X0.here hx rfl (hb hby d7_9) rfl (tlt hc1).2.1 k) ?_
  refine own_S (mkF m 13 #[rv ra, rv ra, .val (.int 2), .val (.int 0), .unset] [(.ref ra)]) (fun _ k => XS.aloadN X0.here hx rfl (hb hby d7_12) rfl rfl k) ?_
  refine own_S (mkF m 14 #[rv ra, rv ra, .val (.int 2), .val (.int 0), .unset] [(.int 0), (.ref ra)]) (fun _ k => XS.iloadN X0.here hx rfl (hb hby d7_13) rfl k) ?_
  refine own_S (mkF m 15 #[rv ra, rv ra, .val (.int 2), .val (.int 0), .unset] [(.ref fi)]) (fun _ k => own_ldR X0 hx hZ e0 P0 (by decide) rfl rfl (g := (mkF m 14 #[rv ra, rv ra, .val (.int 2), .val (.int 0), .unset] [(.int 0), (.ref ra)])) rfl rfl (hb hby d7_14) _ k) ?_
  refine own_S (mkF m 17 #[rv ra, rv ra, .val (.int 2), .val (.int 0), rv fi] []) (fun _ k => XS.astore X0.here hx rfl (hb hby d7_15) rfl rfl (l' := #[rv ra, rv ra, .val (.int 2), .val (.int 0), rv fi]) rfl k) ?_
  refine own_S (mkF m 19 #[rv ra, rv ra, .val (.int 2), .val (.int 0), rv fi] [(.ref fi)]) (fun _ k => XS.aload X0.here hx rfl (hb hby d7_17) rfl rfl k) ?_
  obtain ⟨cq2, kq2, q2a, q2b, q2c⟩ := isOf hZ e0 P1
  obtain ⟨_, _, ⟨T2, L2, k2, n2⟩, -, X2, ⟨Lc2, hQ2, l2, y2, z2⟩, st2⟩ := X0.virtualBack hx (y := own_y2) (z := own_y2) hown (mvT hZ (own_g hw (i := 48) rfl)) (mvT hZ (own_g hw (i := 49) rfl)) (notFace_of_selects (args := #[]) (mvT hZ (own_g hw (i := 51) rfl))) (mvT hZ (own_g hw (i := 51) rfl)) (mvT hZ (own_g hw (i := 50) rfl)) (by decide) (backOf (W := 0) (own_rmact l Z a0 hw [] (fi) (dl) h0 n0 Z0 P3) hZ (own_g hw (i := 52) rfl) (own_g hw (i := 43) rfl) (by decide) (by decide)) q2a q2c (g := (mkF m 19 #[rv ra, rv ra, .val (.int 2), .val (.int 0), rv fi] [(.ref fi)])) rfl (by rw [hml]; rfl) (Steps.refl _) (argsL := []) (rest := []) (lenOf own_pd___Lcom_example_purgatory_purgatory_model_RetentionAction_ rfl) rfl (by show 2 * 0 + _ ≤ _; exact Nat.le_of_eq rfl) (hb hby d7_19) (fun _ _ => ⟨rfl, e0, (by decide : 0 + 0 ≤ _), (by decide : 0 + 0 ≤ _)⟩)
  dsimp only [Pt.U, Pt.locs, Pt.cells, Pt.slots] at X2 l2 y2 z2 st2 hQ2
  subst l2 y2 z2
  obtain ⟨rfl, N2q, e2⟩ := hQ2
  have N2 := Fr.app N0 N2q
  refine own_S (mkF m 22 #[rv ra, rv ra, .val (.int 2), .val (.int 0), rv fi] [(.ref dl)]) (fun _ k => st2.trans k) ?_
  obtain ⟨cq3, kq3, q3a, q3b, q3c⟩ := isOf hZ e2 P5
  obtain ⟨_, _, ⟨T3, L3, k3, n3⟩, -, X3, ⟨Lc3, hQ3, l3, y3, z3⟩, st3⟩ := X2.virtualBack hx (y := own_y3) (z := own_y3) hown (mvT hZ (own_g hw (i := 57) rfl)) (mvT hZ (own_g hw (i := 58) rfl)) (notFace_of_selects (args := #[]) (mvT hZ (own_g hw (i := 60) rfl))) (mvT hZ (own_g hw (i := 60) rfl)) (mvT hZ (own_g hw (i := 59) rfl)) (by decide) (backOf (W := 0) (own_rmwa l Z a0 hw [] (dl) h0 n0 Z0 P6) hZ (own_g hw (i := 61) rfl) (own_g hw (i := 55) rfl) (by decide) (by decide)) q3a q3c (g := (mkF m 22 #[rv ra, rv ra, .val (.int 2), .val (.int 0), rv fi] [(.ref dl)])) rfl (by rw [hml]; rfl) (Steps.refl _) (argsL := []) (rest := []) (lenOf own_pd___Z rfl) rfl (by show 2 * 0 + _ ≤ _; exact Nat.le_of_eq rfl) (hb hby d7_22) (fun _ _ => ⟨rfl, e2, (by decide : 0 + 0 ≤ _), (by decide : 0 + 0 ≤ _)⟩)
  dsimp only [Pt.U, Pt.locs, Pt.cells, Pt.slots] at X3 l3 y3 z3 st3 hQ3
  subst l3 y3 z3
  obtain ⟨rfl, N3q, e3⟩ := hQ3
  have N3 := Fr.app N2 N3q
  refine own_S (mkF m 25 #[rv ra, rv ra, .val (.int 2), .val (.int 0), rv fi] [(.int 0)]) (fun _ k => st3.trans k) ?_
  have hc4 : (0 : Int32) = (0 : Int32) := by decide
  refine own_S (mkF m 30 #[rv ra, rv ra, .val (.int 2), .val (.int 0), rv fi] []) (fun _ k => XS.ifYes X3.here hx rfl (pc0 := 25) (pc' := 30) rfl (hb hby d7_25) rfl ((if0 _ _).trans (teq hc4).1) (by decide) (by decide) k) ?_
  refine own_S (mkF m 33 #[rv ra, rv ra, .val (.int 2), .val (.int 1), rv fi] []) (fun _ k => XS.iinc X3.here hx rfl (hb hby d7_30) rfl (l' := #[rv ra, rv ra, .val (.int 2), .val (.int 1), rv fi]) rfl k) ?_
  refine own_S (mkF m 7 #[rv ra, rv ra, .val (.int 2), .val (.int 1), rv fi] []) (fun _ k => XS.goto X3.here hx rfl (pc0 := 33) (pc' := 7) rfl (hb hby d7_33) (by decide) (by decide) k) ?_
  refine own_S (mkF m 8 #[rv ra, rv ra, .val (.int 2), .val (.int 1), rv fi] [(.int 1)]) (fun _ k => XS.iloadN X3.here hx rfl (hb hby d7_7) rfl k) ?_
  refine own_S (mkF m 9 #[rv ra, rv ra, .val (.int 2), .val (.int 1), rv fi] [(.int 2), (.int 1)]) (fun _ k => XS.iloadN X3.here hx rfl (hb hby d7_8) rfl k) ?_
  have hc5 : (1 : Int32) < (2 : Int32) := by decide
  refine own_S (mkF m 12 #[rv ra, rv ra, .val (.int 2), .val (.int 1), rv fi] []) (fun _ k => XS.icmpNo X3.here hx rfl (hb hby d7_9) rfl (tlt hc5).2.1 k) ?_
  refine own_S (mkF m 13 #[rv ra, rv ra, .val (.int 2), .val (.int 1), rv fi] [(.ref ra)]) (fun _ k => XS.aloadN X3.here hx rfl (hb hby d7_12) rfl rfl k) ?_
  refine own_S (mkF m 14 #[rv ra, rv ra, .val (.int 2), .val (.int 1), rv fi] [(.int 1), (.ref ra)]) (fun _ k => XS.iloadN X3.here hx rfl (hb hby d7_13) rfl k) ?_
  refine own_S (mkF m 15 #[rv ra, rv ra, .val (.int 2), .val (.int 1), rv fi] [(.ref un)]) (fun _ k => own_ldR X3 hx hZ e3 P0 (by decide) rfl rfl (g := (mkF m 14 #[rv ra, rv ra, .val (.int 2), .val (.int 1), rv fi] [(.int 1), (.ref ra)])) rfl rfl (hb hby d7_14) _ k) ?_
  refine own_S (mkF m 17 #[rv ra, rv ra, .val (.int 2), .val (.int 1), rv un] []) (fun _ k => XS.astore X3.here hx rfl (hb hby d7_15) rfl rfl (l' := #[rv ra, rv ra, .val (.int 2), .val (.int 1), rv un]) rfl k) ?_
  refine own_S (mkF m 19 #[rv ra, rv ra, .val (.int 2), .val (.int 1), rv un] [(.ref un)]) (fun _ k => XS.aload X3.here hx rfl (hb hby d7_17) rfl rfl k) ?_
  obtain ⟨cq6, kq6, q6a, q6b, q6c⟩ := isOf hZ e3 P2
  obtain ⟨_, _, ⟨T6, L6, k6, n6⟩, -, X6, ⟨Lc6, hQ6, l6, y6, z6⟩, st6⟩ := X3.virtualBack hx (y := own_y2) (z := own_y2) hown (mvT hZ (own_g hw (i := 48) rfl)) (mvT hZ (own_g hw (i := 49) rfl)) (notFace_of_selects (args := #[]) (mvT hZ (own_g hw (i := 51) rfl))) (mvT hZ (own_g hw (i := 51) rfl)) (mvT hZ (own_g hw (i := 50) rfl)) (by decide) (backOf (W := 0) (own_rmact l Z a0 hw [] (un) (dl) h0 n0 Z0 P4) hZ (own_g hw (i := 52) rfl) (own_g hw (i := 43) rfl) (by decide) (by decide)) q6a q6c (g := (mkF m 19 #[rv ra, rv ra, .val (.int 2), .val (.int 1), rv un] [(.ref un)])) rfl (by rw [hml]; rfl) (Steps.refl _) (argsL := []) (rest := []) (lenOf own_pd___Lcom_example_purgatory_purgatory_model_RetentionAction_ rfl) rfl (by show 2 * 0 + _ ≤ _; exact Nat.le_of_eq rfl) (hb hby d7_19) (fun _ _ => ⟨rfl, e3, (by decide : 0 + 0 ≤ _), (by decide : 0 + 0 ≤ _)⟩)
  dsimp only [Pt.U, Pt.locs, Pt.cells, Pt.slots] at X6 l6 y6 z6 st6 hQ6
  subst l6 y6 z6
  obtain ⟨rfl, N6q, e6⟩ := hQ6
  have N6 := Fr.app N3 N6q
  refine own_S (mkF m 22 #[rv ra, rv ra, .val (.int 2), .val (.int 1), rv un] [(.ref dl)]) (fun _ k => st6.trans k) ?_
  obtain ⟨cq7, kq7, q7a, q7b, q7c⟩ := isOf hZ e6 P5
  obtain ⟨_, _, ⟨T7, L7, k7, n7⟩, -, X7, ⟨Lc7, hQ7, l7, y7, z7⟩, st7⟩ := X6.virtualBack hx (y := own_y3) (z := own_y3) hown (mvT hZ (own_g hw (i := 57) rfl)) (mvT hZ (own_g hw (i := 58) rfl)) (notFace_of_selects (args := #[]) (mvT hZ (own_g hw (i := 60) rfl))) (mvT hZ (own_g hw (i := 60) rfl)) (mvT hZ (own_g hw (i := 59) rfl)) (by decide) (backOf (W := 0) (own_rmwa l Z a0 hw [] (dl) h0 n0 Z0 P6) hZ (own_g hw (i := 61) rfl) (own_g hw (i := 55) rfl) (by decide) (by decide)) q7a q7c (g := (mkF m 22 #[rv ra, rv ra, .val (.int 2), .val (.int 1), rv un] [(.ref dl)])) rfl (by rw [hml]; rfl) (Steps.refl _) (argsL := []) (rest := []) (lenOf own_pd___Z rfl) rfl (by show 2 * 0 + _ ≤ _; exact Nat.le_of_eq rfl) (hb hby d7_22) (fun _ _ => ⟨rfl, e6, (by decide : 0 + 0 ≤ _), (by decide : 0 + 0 ≤ _)⟩)
  dsimp only [Pt.U, Pt.locs, Pt.cells, Pt.slots] at X7 l7 y7 z7 st7 hQ7
  subst l7 y7 z7
  obtain ⟨rfl, N7q, e7⟩ := hQ7
  have N7 := Fr.app N6 N7q
  refine own_S (mkF m 25 #[rv ra, rv ra, .val (.int 2), .val (.int 1), rv un] [(.int 0)]) (fun _ k => st7.trans k) ?_
  have hc8 : (0 : Int32) = (0 : Int32) := by decide
  refine own_S (mkF m 30 #[rv ra, rv ra, .val (.int 2), .val (.int 1), rv un] []) (fun _ k => XS.ifYes X7.here hx rfl (pc0 := 25) (pc' := 30) rfl (hb hby d7_25) rfl ((if0 _ _).trans (teq hc8).1) (by decide) (by decide) k) ?_
  refine own_S (mkF m 33 #[rv ra, rv ra, .val (.int 2), .val (.int 2), rv un] []) (fun _ k => XS.iinc X7.here hx rfl (hb hby d7_30) rfl (l' := #[rv ra, rv ra, .val (.int 2), .val (.int 2), rv un]) rfl k) ?_
  refine own_S (mkF m 7 #[rv ra, rv ra, .val (.int 2), .val (.int 2), rv un] []) (fun _ k => XS.goto X7.here hx rfl (pc0 := 33) (pc' := 7) rfl (hb hby d7_33) (by decide) (by decide) k) ?_
  refine own_S (mkF m 8 #[rv ra, rv ra, .val (.int 2), .val (.int 2), rv un] [(.int 2)]) (fun _ k => XS.iloadN X7.here hx rfl (hb hby d7_7) rfl k) ?_
  refine own_S (mkF m 9 #[rv ra, rv ra, .val (.int 2), .val (.int 2), rv un] [(.int 2), (.int 2)]) (fun _ k => XS.iloadN X7.here hx rfl (hb hby d7_8) rfl k) ?_
  have hc9 : ¬ ((2 : Int32) < (2 : Int32)) := by decide
  refine own_S (mkF m 36 #[rv ra, rv ra, .val (.int 2), .val (.int 2), rv un] []) (fun _ k => XS.icmpYes X7.here hx rfl (pc0 := 9) (pc' := 36) rfl (hb hby d7_9) rfl (flt hc9).2.1 (by decide) (by decide) k) ?_
  refine own_S (mkF m 37 #[rv ra, rv ra, .val (.int 2), .val (.int 2), rv un] [(.int 0)]) (fun _ k => XS.iconst X7.here hx rfl (hb hby d7_36) k) ?_
  exact own_retN X7 hx hlk (t := .boolean) hret (by simp) (hb hby d7_37) (by rw [e7]; exact ⟨rfl, N7, rfl⟩) (by decide) (by decide)
theorem d6_0 : decode prog_19_method_4_code 0 = .ok (.aload_n 1, 1) := by decide +kernel
theorem d6_1 : decode prog_19_method_4_code 1 = .ok (.invokestatic 74, 3) := by decide +kernel
theorem d6_4 : decode prog_19_method_4_code 4 = .ok (.istore_n 2, 1) := by decide +kernel
theorem d6_5 : decode prog_19_method_4_code 5 = .ok (.iload_n 2, 1) := by decide +kernel
theorem d6_6 : decode prog_19_method_4_code 6 = .ok (.ifCond .eq 39, 3) := by decide +kernel
theorem d6_45 : decode prog_19_method_4_code 45 = .ok (.iload_n 2, 1) := by decide +kernel
theorem d6_46 : decode prog_19_method_4_code 46 = .ok (.ifCond .ne 34, 3) := by decide +kernel
theorem d6_49 : decode prog_19_method_4_code 49 = .ok (.aload_n 0, 1) := by decide +kernel
theorem d6_50 : decode prog_19_method_4_code 50 = .ok (.ifnull 30, 3) := by decide +kernel
theorem d6_80 : decode prog_19_method_4_code 80 = .ok (.aload_n 0, 1) := by decide +kernel
theorem d6_81 : decode prog_19_method_4_code 81 = .ok (.areturn, 1) := by decide +kernel
theorem own_pd___Lcom_example_purgatory_purgatory_model_Retention__Z : parseMethodDescriptor "([Lcom/example/purgatory/purgatory/model/Retention;)Z" = some ⟨[(.array (.object "com/example/purgatory/purgatory/model/Retention"))], (some .boolean)⟩ := by decide +kernel
theorem own_pf_rb : plainFor own_y8 = true := by first | exact plainFor_of_name (show plainName "com/example/purgatory/purgatory/model/Retention" = true by first | (simp [plainName, overriddenIn]; done) | decide +kernel) | decide +kernel
theorem own_ef_rb (m : MethodId) (y1 : Addr) : entryFrame m #[.null, (.ref y1)] 3 = mkF m 0 #[.val .null, rv y1, .unset] [] := by first | (simp [entryFrame, mkF, argsToLocals, Value.category]; done) | rfl
def own_Qrb (Z : State) (ra : Addr) (kr : ClassId) (fi : Addr) (un : Addr) (dl : Addr) (h0 : Heap) (n0 : Nat) (v : Option Value) (h : Heap) (L : List Loc) : Prop := v = some .null ∧ Fr n0 L ∧ h = h0
set_option maxRecDepth 65536 in
set_option maxHeartbeats 40000000 in
theorem own_rmrb (l : Launch) (Z : State) (a0 : Array Value) (hw : ∀ d ∈ tables_1, d.before a0 Z = true) (ws : List Jvm.Cond) (ra : Addr) (kr : ClassId) (fi : Addr) (un : Addr) (dl : Addr) (h0 : Heap) (n0 : Nat) (Z0 : n0 ≤ h0.size) (P0 : own_Ar Z h0 ra kr (.object "com/example/purgatory/purgatory/model/Retention") [(.ref fi), (.ref un)]) (P1 : Exa Z h0 fi "com/example/purgatory/purgatory/model/Retention") (P2 : Exa Z h0 un "com/example/purgatory/purgatory/model/Retention") (P3 : Fld Z h0 fi "com/example/purgatory/purgatory/model/Retention" "action" "Lcom/example/purgatory/purgatory/model/RetentionAction;" (.ref dl)) (P4 : Fld Z h0 un "com/example/purgatory/purgatory/model/Retention" "action" "Lcom/example/purgatory/purgatory/model/RetentionAction;" (.ref dl)) (P5 : Exa Z h0 dl "com/example/purgatory/purgatory/model/RetentionAction") (P6 : Fld Z h0 dl "com/example/purgatory/purgatory/model/RetentionAction" "writesArchive" "Z" (.int (0 : Int32))) :
    MetFree l own_y8 (head1 (Jvm.Cond.code own_y8 prog_19_method_4_code 3 (some (.object "java/lang/Long")) :: ws) ({ frames := 2, cells := 0, slots := 0, locals := 28 } : Room)) (fun az Uz => az = #[.null, (.ref ra)] ∧ Z.Warmed39 Uz.vm ∧ Uz.heap = h0) (fun _ _ _ _ _ => True) (fun _ U o U' => ∃ v L, o = .returned v ∧ own_Qrb Z ra kr fi un dl h0 n0 v U'.heap L ∧ FrameEnd U o U' L ({ frames := 2, cells := 0, slots := 0, locals := 28 } : Room).cells ({ frames := 2, cells := 0, slots := 0, locals := 28 } : Room).slots) := by
  refine MetFree.of_bodySF own_pf_rb hisR ?_
  intro p e s m args below meth c s₁ Bd hml0 hP hK
  obtain ⟨rfl, hZ, hh⟩ := hP
  have hx := Bd.exec
  have hby := Bd.bytes
  have hml : c.maxLocals = 3 := hml0
  have hown : s.vm.findClass "com/example/purgatory/purgatory/model/Retention" = some m.cls := findClass_of_methodNamed Bd.named
  have hnm := (name_of_methodNamed Bd.named Bd.method).1
  have hlk : meth.locks = false := BodyLoose.notSynchronized Bd
  have hret := Bd.returns
  have X0 : Stand p l e ({ frames := 2, cells := 0, slots := 0, locals := 28 } : Room) s m #[.null, (.ref ra)] below meth c s₁ [] 0 0 := Stand.of_body Bd
  have e0 : s₁.heap = h0 := by rw [← hh, Bd.state]; rfl
  have N0 := Fr.nil n0
  show own_E p e below (own_K s (own_Qrb Z ra kr fi un dl h0 n0) ({ frames := 2, cells := 0, slots := 0, locals := 28 } : Room).cells ({ frames := 2, cells := 0, slots := 0, locals := 28 } : Room).slots) s₁ (entryFrame m #[.null, (.ref ra)] 3)
  refine own_S (mkF m 0 #[.val .null, rv ra, .unset] []) (fun _ k => castTop (own_ef_rb m (ra)) k) ?_
  refine own_S (mkF m 1 #[.val .null, rv ra, .unset] [(.ref ra)]) (fun _ k => XS.aloadN X0.here hx rfl (hb hby d6_0) rfl rfl k) ?_
  obtain ⟨_, _, ⟨T1, L1, k1, n1⟩, -, X1, ⟨Lc1, hQ1, l1, y1, z1⟩, st1⟩ := Jvm.LawKit.callS X0 hx (y := own_y7) hown (mvT hZ (own_g hw (i := 45) rfl)) (mvT hZ (own_g hw (i := 46) rfl)) (mvT hZ (own_g hw (i := 43) rfl)) (mvT hZ (own_g hw (i := 47) rfl)) (by decide) (backOf (W := 0) (own_rmaw l Z a0 hw [] (ra) (kr) (fi) (un) (dl) h0 n0 Z0 P0 P1 P2 P3 P4 P5 P6) hZ (own_g hw (i := 47) rfl) (own_g hw (i := 43) rfl) (by decide) (by decide)) (g := (mkF m 1 #[.val .null, rv ra, .unset] [(.ref ra)])) rfl (by rw [hml]; rfl) (argsL := [(.ref ra)]) (rest := []) (lenOf own_pd___Lcom_example_purgatory_purgatory_model_Retention__Z rfl) rfl (by show 2 * 0 + _ ≤ _; exact Nat.le_of_eq rfl) (hb hby d6_1) (fun _ _ => ⟨rfl, e0, (by decide : 0 + 0 ≤ _), (by decide : 0 + 0 ≤ _)⟩)
  dsimp only [Pt.U, Pt.locs, Pt.cells, Pt.slots] at X1 l1 y1 z1 st1 hQ1
  subst l1 y1 z1
  obtain ⟨rfl, N1q, e1⟩ := hQ1
  have N1 := Fr.app N0 N1q
  refine own_S (mkF m 4 #[.val .null, rv ra, .unset] [(.int 0)]) (fun _ k => st1 _ k) ?_
  refine own_S (mkF m 5 #[.val .null, rv ra, .val (.int 0)] []) (fun _ k => XS.istoreN X1.here hx rfl (hb hby d6_4) rfl (l' := #[.val .null, rv ra, .val (.int 0)]) rfl k) ?_
  refine own_S (mkF m 6 #[.val .null, rv ra, .val (.int 0)] [(.int 0)]) (fun _ k => XS.iloadN X1.here hx rfl (hb hby d6_5) rfl k) ?_
  have hc2 : (0 : Int32) = (0 : Int32) := by decide
  refine own_S (mkF m 45 #[.val .null, rv ra, .val (.int 0)] []) (fun _ k => XS.ifYes X1.here hx rfl (pc0 := 6) (pc' := 45) rfl (hb hby d6_6) rfl ((if0 _ _).trans (teq hc2).1) (by decide) (by decide) k) ?_
  refine own_S (mkF m 46 #[.val .null, rv ra, .val (.int 0)] [(.int 0)]) (fun _ k => XS.iloadN X1.here hx rfl (hb hby d6_45) rfl k) ?_
  have hc3 : (0 : Int32) = (0 : Int32) := by decide
  refine own_S (mkF m 49 #[.val .null, rv ra, .val (.int 0)] []) (fun _ k => XS.ifNo X1.here hx rfl (hb hby d6_46) rfl ((if0 _ _).trans (teq hc3).2) k) ?_
  refine own_S (mkF m 50 #[.val .null, rv ra, .val (.int 0)] [.null]) (fun _ k => XS.aloadN X1.here hx rfl (hb hby d6_49) rfl rfl k) ?_
  refine own_S (mkF m 80 #[.val .null, rv ra, .val (.int 0)] []) (fun _ k => XS.ifnullYes X1.here hx rfl (pc0 := 50) (pc' := 80) rfl (hb hby d6_50) rfl (by decide) (by decide) k) ?_
  refine own_S (mkF m 81 #[.val .null, rv ra, .val (.int 0)] [.null]) (fun _ k => XS.aloadN X1.here hx rfl (hb hby d6_80) rfl rfl k) ?_
  exact own_ret X1 hx hlk (t := (.object "java/lang/Long")) hret rfl (Or.inr (Or.inr (Or.inr (Or.inr ⟨rfl, rfl, rfl⟩)))) (hb hby d6_81) (by rw [e1]; exact ⟨rfl, N1, rfl⟩) (by decide) (by decide)
theorem d3_0 : decode prog_14_method_1_code 0 = .ok (.aload_n 0, 1) := by decide +kernel
theorem d3_1 : decode prog_14_method_1_code 1 = .ok (.invokespecial 1, 3) := by decide +kernel
theorem d3_4 : decode prog_14_method_1_code 4 = .ok (.aload_n 0, 1) := by decide +kernel
theorem d3_5 : decode prog_14_method_1_code 5 = .ok (.aload_n 1, 1) := by decide +kernel
theorem d3_6 : decode prog_14_method_1_code 6 = .ok (.ldc 7, 2) := by decide +kernel
theorem d3_8 : decode prog_14_method_1_code 8 = .ok (.invokestatic 9, 3) := by decide +kernel
theorem d3_11 : decode prog_14_method_1_code 11 = .ok (.checkcast 15, 3) := by decide +kernel
theorem d3_14 : decode prog_14_method_1_code 14 = .ok (.putfield 17, 3) := by decide +kernel
theorem d3_17 : decode prog_14_method_1_code 17 = .ok (.aload_n 0, 1) := by decide +kernel
theorem d3_18 : decode prog_14_method_1_code 18 = .ok (.aload_n 2, 1) := by decide +kernel
theorem d3_19 : decode prog_14_method_1_code 19 = .ok (.ldc 22, 2) := by decide +kernel
theorem d3_21 : decode prog_14_method_1_code 21 = .ok (.invokestatic 9, 3) := by decide +kernel
theorem d3_24 : decode prog_14_method_1_code 24 = .ok (.checkcast 15, 3) := by decide +kernel
theorem d3_27 : decode prog_14_method_1_code 27 = .ok (.putfield 24, 3) := by decide +kernel
theorem d3_30 : decode prog_14_method_1_code 30 = .ok (.aload_n 0, 1) := by decide +kernel
theorem d3_31 : decode prog_14_method_1_code 31 = .ok (.aload_n 3, 1) := by decide +kernel
theorem d3_32 : decode prog_14_method_1_code 32 = .ok (.iconst 2, 1) := by decide +kernel
theorem d3_33 : decode prog_14_method_1_code 33 = .ok (.anewarray 15, 3) := by decide +kernel
theorem d3_36 : decode prog_14_method_1_code 36 = .ok (.dup, 1) := by decide +kernel
theorem d3_37 : decode prog_14_method_1_code 37 = .ok (.iconst 0, 1) := by decide +kernel
theorem d3_38 : decode prog_14_method_1_code 38 = .ok (.aload_n 1, 1) := by decide +kernel
theorem d3_39 : decode prog_14_method_1_code 39 = .ok (.aastore, 1) := by decide +kernel
theorem d3_40 : decode prog_14_method_1_code 40 = .ok (.dup, 1) := by decide +kernel
theorem d3_41 : decode prog_14_method_1_code 41 = .ok (.iconst 1, 1) := by decide +kernel
theorem d3_42 : decode prog_14_method_1_code 42 = .ok (.aload_n 2, 1) := by decide +kernel
theorem d3_43 : decode prog_14_method_1_code 43 = .ok (.aastore, 1) := by decide +kernel
theorem d3_44 : decode prog_14_method_1_code 44 = .ok (.invokestatic 26, 3) := by decide +kernel
theorem d3_47 : decode prog_14_method_1_code 47 = .ok (.putfield 30, 3) := by decide +kernel
theorem d3_50 : decode prog_14_method_1_code 50 = .ok (.aload_n 0, 1) := by decide +kernel
theorem d3_51 : decode prog_14_method_1_code 51 = .ok (.iload 4, 2) := by decide +kernel
theorem d3_53 : decode prog_14_method_1_code 53 = .ok (.putfield 34, 3) := by decide +kernel
theorem d3_56 : decode prog_14_method_1_code 56 = .ok (.return_, 1) := by decide +kernel
theorem own_pd__Ljava_lang_Object_Ljava_lang_String__Ljava_lang_Object_ : parseMethodDescriptor "(Ljava/lang/Object;Ljava/lang/String;)Ljava/lang/Object;" = some ⟨[(.object "java/lang/Object"), (.object "java/lang/String")], (some (.object "java/lang/Object"))⟩ := by decide +kernel
theorem own_pd__Ljava_lang_Long__Lcom_example_purgatory_purgatory_model_Retention__Ljava_lang_Long_ : parseMethodDescriptor "(Ljava/lang/Long;[Lcom/example/purgatory/purgatory/model/Retention;)Ljava/lang/Long;" = some ⟨[(.object "java/lang/Long"), (.array (.object "com/example/purgatory/purgatory/model/Retention"))], (some (.object "java/lang/Long"))⟩ := by decide +kernel
theorem own_pf_qi : plainFor own_y9 = true := by first | exact plainFor_of_name (show plainName "com/example/purgatory/purgatory/model/QueueRetentionPolicy" = true by first | (simp [plainName, overriddenIn]; done) | decide +kernel) | decide +kernel
theorem own_ef_qi (m : MethodId) (y0 : Addr) (y1 : Addr) (y2 : Addr) (y4 : Int32) : entryFrame m #[(.ref y0), (.ref y1), (.ref y2), .null, (.int y4)] 5 = mkF m 0 #[rv y0, rv y1, rv y2, .val .null, iv y4] [] := by first | (simp [entryFrame, mkF, argsToLocals, Value.category]; done) | rfl
def own_Qqi (Z : State) (a : Addr) (fi : Addr) (un : Addr) (dl : Addr) (df : Int32) (h0 : Heap) (n0 : Nat) (v : Option Value) (h : Heap) (L : List Loc) : Prop := v = none ∧ Fr n0 L ∧ Keep h0 h [a] ∧ Exa Z h a "com/example/purgatory/purgatory/model/QueueRetentionPolicy" ∧ Fld Z h a "com/example/purgatory/purgatory/model/QueueRetentionPolicy" "finished" "Lcom/example/purgatory/purgatory/model/Retention;" (.ref fi) ∧ Fld Z h a "com/example/purgatory/purgatory/model/QueueRetentionPolicy" "unprocessed" "Lcom/example/purgatory/purgatory/model/Retention;" (.ref un)
set_option maxRecDepth 65536 in
set_option maxHeartbeats 40000000 in
theorem own_rmqi (l : Launch) (Z : State) (a0 : Array Value) (hw : ∀ d ∈ tables_1, d.before a0 Z = true) (ws : List Jvm.Cond) (a : Addr) (fi : Addr) (un : Addr) (dl : Addr) (df : Int32) (h0 : Heap) (n0 : Nat) (Z0 : n0 ≤ h0.size) (P0 : Exa Z h0 a "com/example/purgatory/purgatory/model/QueueRetentionPolicy") (P1 : Fld Z h0 a "com/example/purgatory/purgatory/model/QueueRetentionPolicy" "finished" "Lcom/example/purgatory/purgatory/model/Retention;" .null) (P2 : Fld Z h0 a "com/example/purgatory/purgatory/model/QueueRetentionPolicy" "unprocessed" "Lcom/example/purgatory/purgatory/model/Retention;" .null) (P3 : Fld Z h0 a "com/example/purgatory/purgatory/model/QueueRetentionPolicy" "bucketId" "Ljava/lang/Long;" .null) (P4 : Fld Z h0 a "com/example/purgatory/purgatory/model/QueueRetentionPolicy" "isDefault" "Z" (.int (0 : Int32))) (P5 : Exa Z h0 fi "com/example/purgatory/purgatory/model/Retention") (P6 : Exa Z h0 un "com/example/purgatory/purgatory/model/Retention") (P7 : Fld Z h0 fi "com/example/purgatory/purgatory/model/Retention" "action" "Lcom/example/purgatory/purgatory/model/RetentionAction;" (.ref dl)) (P8 : Fld Z h0 un "com/example/purgatory/purgatory/model/Retention" "action" "Lcom/example/purgatory/purgatory/model/RetentionAction;" (.ref dl)) (P9 : Exa Z h0 dl "com/example/purgatory/purgatory/model/RetentionAction") (P10 : Fld Z h0 dl "com/example/purgatory/purgatory/model/RetentionAction" "writesArchive" "Z" (.int (0 : Int32))) (G_a : n0 ≤ a) :
    MetFree l own_y9 (head1 (Jvm.Cond.code own_y9 prog_14_method_1_code 5 none :: ws) ({ frames := 3, cells := 5, slots := 86, locals := 43 } : Room)) (fun az Uz => az = #[(.ref a), (.ref fi), (.ref un), .null, (.int df)] ∧ Z.Warmed39 Uz.vm ∧ Uz.heap = h0) (fun _ _ _ _ _ => True) (fun _ U o U' => ∃ v L, o = .returned v ∧ own_Qqi Z a fi un dl df h0 n0 v U'.heap L ∧ ReturnedEndW U o U' L ({ frames := 3, cells := 5, slots := 86, locals := 43 } : Room).cells ({ frames := 3, cells := 5, slots := 86, locals := 43 } : Room).slots) := by
  refine MetFree.of_bodySF own_pf_qi hisR ?_
  intro p e s m args below meth c s₁ Bd hml0 hP hK
  obtain ⟨rfl, hZ, hh⟩ := hP
  have hx := Bd.exec
  have hby := Bd.bytes
  have hml : c.maxLocals = 5 := hml0
  have hown : s.vm.findClass "com/example/purgatory/purgatory/model/QueueRetentionPolicy" = some m.cls := findClass_of_methodNamed Bd.named
  have hnm := (name_of_methodNamed Bd.named Bd.method).1
  have hlk : meth.locks = false := BodyLoose.notSynchronized Bd
  have hret := Bd.returns
  have X0 : Stand p l e ({ frames := 3, cells := 5, slots := 86, locals := 43 } : Room) (s.setVm s.vm) m #[(.ref a), (.ref fi), (.ref un), .null, (.int df)] below meth c s₁ [] 0 0 := Stand.of_body Bd
  have e0 : s₁.heap = h0 := by rw [← hh, Bd.state]; rfl
  have N0 := Fr.nil n0
  show own_E p e below (own_KW s (own_Qqi Z a fi un dl df h0 n0) ({ frames := 3, cells := 5, slots := 86, locals := 43 } : Room).cells ({ frames := 3, cells := 5, slots := 86, locals := 43 } : Room).slots) s₁ (entryFrame m #[(.ref a), (.ref fi), (.ref un), .null, (.int df)] 5)
  refine own_S (mkF m 0 #[rv a, rv fi, rv un, .val .null, iv df] []) (fun _ k => castTop (own_ef_qi m (a) (fi) (un) (df)) k) ?_
  refine own_S (mkF m 1 #[rv a, rv fi, rv un, .val .null, iv df] [(.ref a)]) (fun _ k => XS.aloadN X0.here hx rfl (hb hby d3_0) rfl rfl k) ?_
  obtain ⟨T1, X1, e1, st1⟩ := initO X0 hx hZ hown (own_g hw (i := 22) rfl) (own_g hw (i := 23) rfl) (own_g hw (i := 24) rfl) e0 (g := (mkF m 1 #[rv a, rv fi, rv un, .val .null, iv df] [(.ref a)])) rfl (by rw [hml]; rfl) rfl (hb hby d3_1) (by decide) (W := 0) (by show 2 * 0 + _ ≤ _; exact Nat.le_of_eq rfl) (by decide)
  refine own_S (mkF m 4 #[rv a, rv fi, rv un, .val .null, iv df] []) st1 ?_
  refine own_S (mkF m 5 #[rv a, rv fi, rv un, .val .null, iv df] [(.ref a)]) (fun _ k => XS.aloadN X1.here hx rfl (hb hby d3_4) rfl rfl k) ?_
  refine own_S (mkF m 6 #[rv a, rv fi, rv un, .val .null, iv df] [(.ref fi), (.ref a)]) (fun _ k => XS.aloadN X1.here hx rfl (hb hby d3_5) rfl rfl k) ?_
  obtain ⟨s1, T2, h2, ks2, X2, e2, E2, hS2, hks2, hZ2, hown2, st2⟩ := ldcS (s := s) (vm0 := s.vm) X1 hx hZ hown (own_g hw (i := 25) rfl) (own_wS hw) e1 ((State.WarmedH.refl s).since 0) (Nat.zero_le _) (g := (mkF m 6 #[rv a, rv fi, rv un, .val .null, iv df] [(.ref fi), (.ref a)])) rfl (hb hby d3_6) (n := 32) (by decide) (by decide) (by decide) (by decide)
  refine own_S (mkF m 8 #[rv a, rv fi, rv un, .val .null, iv df] [(.ref s1), (.ref fi), (.ref a)]) st2 ?_
  have K2 : Keep h0 h2 [a] := (Keep.refl _ _).ext E2
  have F3 := P0.ext E2
  have F4 := P1.ext E2
  have F5 := P2.ext E2
  have F6 := P3.ext E2
  have F7 := P4.ext E2
  have F8 := P5.ext E2
  have F9 := P6.ext E2
  have F10 := P7.ext E2
  have F11 := P8.ext E2
  have F12 := P9.ext E2
  have F13 := P10.ext E2
  have Z2 : n0 ≤ h2.size := Nat.le_trans Z0 E2.1
  obtain ⟨_, _, ⟨T14, L14, k14, n14⟩, -, X14, ⟨Lc14, hQ14, l14, y14, z14⟩, st14⟩ := Jvm.LawKit.callS X2 hx (y := own_y5) hown2 (mvT hZ2 (own_g hw (i := 33) rfl)) (mvT hZ2 (own_g hw (i := 34) rfl)) (mvT hZ2 (own_g hw (i := 35) rfl)) (mvT hZ2 (own_g hw (i := 36) rfl)) (by decide) (backOf (W := 1) (own_rmrn2 l Z a0 hw [] (fi) (s1) h2 n0 Z2 ) hZ2 (own_g hw (i := 36) rfl) (own_g hw (i := 35) rfl) (by decide) (by decide)) (g := (mkF m 8 #[rv a, rv fi, rv un, .val .null, iv df] [(.ref s1), (.ref fi), (.ref a)])) rfl (by rw [hml]; rfl) (argsL := [(.ref fi), (.ref s1)]) (rest := [(.ref a)]) (lenOf own_pd__Ljava_lang_Object_Ljava_lang_String__Ljava_lang_Object_ rfl) rfl (by show 2 * 0 + _ ≤ _; exact Nat.le_of_eq rfl) (hb hby d3_8) (fun _ _ => ⟨rfl, e2, (by decide : 2 + 0 ≤ _), (by decide : 36 + 0 ≤ _)⟩)
  dsimp only [Pt.U, Pt.locs, Pt.cells, Pt.slots] at X14 l14 y14 z14 st14 hQ14
  subst l14 y14 z14
  obtain ⟨rfl, N14q, e14⟩ := hQ14
  have N14 := Fr.app N0 N14q
  refine own_S (mkF m 11 #[rv a, rv fi, rv un, .val .null, iv df] [(.ref fi), (.ref a)]) (fun _ k => st14 _ k) ?_
  obtain ⟨T15, X15, e15, st15⟩ := castY X14 hx hZ2 hown2 (own_g hw (i := 37) rfl) e14 (Ins.self F8) (g := (mkF m 11 #[rv a, rv fi, rv un, .val .null, iv df] [(.ref fi), (.ref a)])) rfl rfl (hb hby d3_11)
  refine own_S (mkF m 14 #[rv a, rv fi, rv un, .val .null, iv df] [(.ref fi), (.ref a)]) st15 ?_
  obtain ⟨T16, h16, X16, e16, W16, st16⟩ := putF X15 hx hZ2 hown2 (host := "") (Or.inl (own_g hw (i := 8) rfl)) Via.refl e15 F4 F3 (Or.inr ⟨(own_g hw (i := 9) rfl), rfl, hnm⟩) (own_g hw (i := 18) rfl) (ty := (.object "com/example/purgatory/purgatory/model/Retention")) (by decide) rfl rfl (g := (mkF m 14 #[rv a, rv fi, rv un, .val .null, iv df] [(.ref fi), (.ref a)])) rfl rfl (hb hby d3_14)
  refine own_S (mkF m 17 #[rv a, rv fi, rv un, .val .null, iv df] []) st16 ?_
  have F17 := F3.wr W16
  have F18 := F4.same W16
  have F19 := F5.other W16 (Or.inr (slot_ne (Or.inr (own_g hw (i := 16) rfl)) (Or.inr (own_g hw (i := 9) rfl)) (by decide) (t := (.object "com/example/purgatory/purgatory/model/Retention")) (t' := (.object "com/example/purgatory/purgatory/model/Retention")) (by decide) (by decide)))
  have F20 := F6.other W16 (Or.inr (slot_ne (Or.inr (own_g hw (i := 65) rfl)) (Or.inr (own_g hw (i := 9) rfl)) (by decide) (t := (.object "java/lang/Long")) (t' := (.object "com/example/purgatory/purgatory/model/Retention")) (by decide) (by decide)))
  have F21 := F7.other W16 (Or.inr (slot_ne (Or.inr (own_g hw (i := 67) rfl)) (Or.inr (own_g hw (i := 9) rfl)) (by decide) (t := .boolean) (t' := (.object "com/example/purgatory/purgatory/model/Retention")) (by decide) (by decide)))
  have F22 := F8.wr W16
  have F23 := F9.wr W16
  have F24 := F10.other W16 (Or.inl (ne_exa F8 F3 (by decide)))
  have F25 := F11.other W16 (Or.inl (ne_exa F9 F3 (by decide)))
  have F26 := F12.wr W16
  have F27 := F13.other W16 (Or.inl (ne_exa F12 F3 (by decide)))
  have N16 := Fr.snoc X16 N14 G_a
  have Z16 : n0 ≤ h16.size := by rw [Wr.size W16]; exact Z2
  have hk16 : ks2 ≤ h16.size := by rw [Wr.size W16]; exact hks2
  have K16 : Keep h0 h16 [a] := K2.wr W16 (Or.inl (List.mem_of_getElem? (i := 0) rfl))
  refine own_S (mkF m 18 #[rv a, rv fi, rv un, .val .null, iv df] [(.ref a)]) (fun _ k => XS.aloadN X16.here hx rfl (hb hby d3_17) rfl rfl k) ?_
  refine own_S (mkF m 19 #[rv a, rv fi, rv un, .val .null, iv df] [(.ref un), (.ref a)]) (fun _ k => XS.aloadN X16.here hx rfl (hb hby d3_18) rfl rfl k) ?_
  obtain ⟨s2, T28, h28, ks28, X28, e28, E28, hS28, hks28, hZ28, hown28, st28⟩ := ldcS (s := s) (vm0 := T2.vm) X16 hx hZ2 hown2 (own_g hw (i := 39) rfl) (own_wS hw) e16 hS2 hk16 (g := (mkF m 19 #[rv a, rv fi, rv un, .val .null, iv df] [(.ref un), (.ref a)])) rfl (hb hby d3_19) (n := 44) (by decide) (by decide) (by decide) (by decide)
  refine own_S (mkF m 21 #[rv a, rv fi, rv un, .val .null, iv df] [(.ref s2), (.ref un), (.ref a)]) st28 ?_
  have K28 : Keep h0 h28 [a] := K16.ext E28
  have F29 := F17.ext E28
  have F30 := F18.ext E28
  have F31 := F19.ext E28
  have F32 := F20.ext E28
  have F33 := F21.ext E28
  have F34 := F22.ext E28
  have F35 := F23.ext E28
  have F36 := F24.ext E28
  have F37 := F25.ext E28
  have F38 := F26.ext E28
  have F39 := F27.ext E28
  have Z28 : n0 ≤ h28.size := Nat.le_trans Z16 E28.1
  obtain ⟨_, _, ⟨T40, L40, k40, n40⟩, -, X40, ⟨Lc40, hQ40, l40, y40, z40⟩, st40⟩ := Jvm.LawKit.callS X28 hx (y := own_y5) hown28 (mvT hZ28 (own_g hw (i := 33) rfl)) (mvT hZ28 (own_g hw (i := 34) rfl)) (mvT hZ28 (own_g hw (i := 35) rfl)) (mvT hZ28 (own_g hw (i := 36) rfl)) (by decide) (backOf (W := 1) (own_rmrn2 l Z a0 hw [] (un) (s2) h28 n0 Z28 ) hZ28 (own_g hw (i := 36) rfl) (own_g hw (i := 35) rfl) (by decide) (by decide)) (g := (mkF m 21 #[rv a, rv fi, rv un, .val .null, iv df] [(.ref s2), (.ref un), (.ref a)])) rfl (by rw [hml]; rfl) (argsL := [(.ref un), (.ref s2)]) (rest := [(.ref a)]) (lenOf own_pd__Ljava_lang_Object_Ljava_lang_String__Ljava_lang_Object_ rfl) rfl (by show 2 * 0 + _ ≤ _; exact Nat.le_of_eq rfl) (hb hby d3_21) (fun _ _ => ⟨rfl, e28, (by decide : 4 + 0 ≤ _), (by decide : 84 + 0 ≤ _)⟩)
  dsimp only [Pt.U, Pt.locs, Pt.cells, Pt.slots] at X40 l40 y40 z40 st40 hQ40
  subst l40 y40 z40
  obtain ⟨rfl, N40q, e40⟩ := hQ40
  have N40 := Fr.app N16 N40q
  refine own_S (mkF m 24 #[rv a, rv fi, rv un, .val .null, iv df] [(.ref un), (.ref a)]) (fun _ k => st40 _ k) ?_
  obtain ⟨T41, X41, e41, st41⟩ := castY X40 hx hZ28 hown28 (own_g hw (i := 37) rfl) e40 (Ins.self F35) (g := (mkF m 24 #[rv a, rv fi, rv un, .val .null, iv df] [(.ref un), (.ref a)])) rfl rfl (hb hby d3_24)
  refine own_S (mkF m 27 #[rv a, rv fi, rv un, .val .null, iv df] [(.ref un), (.ref a)]) st41 ?_
  obtain ⟨T42, h42, X42, e42, W42, st42⟩ := putF X41 hx hZ28 hown28 (host := "") (Or.inl (own_g hw (i := 15) rfl)) Via.refl e41 F31 F29 (Or.inr ⟨(own_g hw (i := 16) rfl), rfl, hnm⟩) (own_g hw (i := 18) rfl) (ty := (.object "com/example/purgatory/purgatory/model/Retention")) (by decide) rfl rfl (g := (mkF m 27 #[rv a, rv fi, rv un, .val .null, iv df] [(.ref un), (.ref a)])) rfl rfl (hb hby d3_27)
  refine own_S (mkF m 30 #[rv a, rv fi, rv un, .val .null, iv df] []) st42 ?_
  have F43 := F29.wr W42
  have F44 := F30.other W42 (Or.inr (slot_ne (Or.inr (own_g hw (i := 9) rfl)) (Or.inr (own_g hw (i := 16) rfl)) (by decide) (t := (.object "com/example/purgatory/purgatory/model/Retention")) (t' := (.object "com/example/purgatory/purgatory/model/Retention")) (by decide) (by decide)))
  have F45 := F31.same W42
  have F46 := F32.other W42 (Or.inr (slot_ne (Or.inr (own_g hw (i := 65) rfl)) (Or.inr (own_g hw (i := 16) rfl)) (by decide) (t := (.object "java/lang/Long")) (t' := (.object "com/example/purgatory/purgatory/model/Retention")) (by decide) (by decide)))
  have F47 := F33.other W42 (Or.inr (slot_ne (Or.inr (own_g hw (i := 67) rfl)) (Or.inr (own_g hw (i := 16) rfl)) (by decide) (t := .boolean) (t' := (.object "com/example/purgatory/purgatory/model/Retention")) (by decide) (by decide)))
  have F48 := F34.wr W42
  have F49 := F35.wr W42
  have F50 := F36.other W42 (Or.inl (ne_exa F34 F29 (by decide)))
  have F51 := F37.other W42 (Or.inl (ne_exa F35 F29 (by decide)))
  have F52 := F38.wr W42
  have F53 := F39.other W42 (Or.inl (ne_exa F38 F29 (by decide)))
  have N42 := Fr.snoc X42 N40 G_a
  have Z42 : n0 ≤ h42.size := by rw [Wr.size W42]; exact Z28
  have hk42 : ks28 ≤ h42.size := by rw [Wr.size W42]; exact hks28
  have K42 : Keep h0 h42 [a] := K28.wr W42 (Or.inl (List.mem_of_getElem? (i := 0) rfl))
  refine own_S (mkF m 31 #[rv a, rv fi, rv un, .val .null, iv df] [(.ref a)]) (fun _ k => XS.aloadN X42.here hx rfl (hb hby d3_30) rfl rfl k) ?_
  refine own_S (mkF m 32 #[rv a, rv fi, rv un, .val .null, iv df] [.null, (.ref a)]) (fun _ k => XS.aloadN X42.here hx rfl (hb hby d3_31) rfl rfl k) ?_
  refine own_S (mkF m 33 #[rv a, rv fi, rv un, .val .null, iv df] [(.int 2), .null, (.ref a)]) (fun _ k => XS.iconst X42.here hx rfl (hb hby d3_32) k) ?_
  obtain ⟨T54, h54, cA54, X54, e54, E54, A54, O54, st54⟩ := newR X42 hx hZ28 hown28 (own_g hw (i := 37) rfl) (own_g hw (i := 40) rfl) e42 (g := (mkF m 33 #[rv a, rv fi, rv un, .val .null, iv df] [(.int 2), .null, (.ref a)])) rfl (hb hby d3_33) rfl (by decide) (cap := 2) (by decide) (by decide) (by decide) (by decide)
  obtain ⟨ra, g54⟩ : ∃ z, z = h42.size := ⟨_, rfl⟩
  rw [← g54] at A54 st54
  have n55 : a ≠ ra := Nat.ne_of_lt (Nat.lt_of_lt_of_eq F43.lt g54.symm)
  have n56 : fi ≠ ra := Nat.ne_of_lt (Nat.lt_of_lt_of_eq F48.lt g54.symm)
  have n57 : un ≠ ra := Nat.ne_of_lt (Nat.lt_of_lt_of_eq F49.lt g54.symm)
  have n58 : dl ≠ ra := Nat.ne_of_lt (Nat.lt_of_lt_of_eq F52.lt g54.symm)
  have ge_ra : n0 ≤ ra := Nat.le_trans Z42 (Nat.le_of_eq g54.symm)
  have fr_ra : h0.size ≤ ra := Nat.le_trans K42.1 (Nat.le_of_eq g54.symm)
  have K54 : Keep h0 h54 [a] := K42.ext E54
  have F59 := F43.ext E54
  have F60 := F44.ext E54
  have F61 := F45.ext E54
  have F62 := F46.ext E54
  have F63 := F47.ext E54
  have F64 := F48.ext E54
  have F65 := F49.ext E54
  have F66 := F50.ext E54
  have F67 := F51.ext E54
  have F68 := F52.ext E54
  have F69 := F53.ext E54
  have Z54 : n0 ≤ h54.size := Nat.le_trans Z42 E54.1
  have hk54 : ks28 ≤ h54.size := Nat.le_trans hk42 E54.1
  have F70 : own_Ar Z h54 ra cA54 (.object "com/example/purgatory/purgatory/model/Retention") [.null, .null] := own_Ar.new A54 rfl
  refine own_S (mkF m 36 #[rv a, rv fi, rv un, .val .null, iv df] [(.ref ra), .null, (.ref a)]) st54 ?_
  refine own_S (mkF m 37 #[rv a, rv fi, rv un, .val .null, iv df] [(.ref ra), (.ref ra), .null, (.ref a)]) (fun _ k => XS.dup X54.here hx rfl (hb hby d3_36) rfl rfl k) ?_
  refine own_S (mkF m 38 #[rv a, rv fi, rv un, .val .null, iv df] [(.int 0), (.ref ra), (.ref ra), .null, (.ref a)]) (fun _ k => XS.iconst X54.here hx rfl (hb hby d3_37) k) ?_
  refine own_S (mkF m 39 #[rv a, rv fi, rv un, .val .null, iv df] [(.ref fi), (.int 0), (.ref ra), (.ref ra), .null, (.ref a)]) (fun _ k => XS.aloadN X54.here hx rfl (hb hby d3_38) rfl rfl k) ?_
  obtain ⟨T71, h71, X71, e71, W71, AR71, st71⟩ := own_stR (j := (0 : Int32)) X54 hx hZ28 e54 F70 O54 (Ins.self F64) (by decide) (show (0 : Nat) < 2 from by decide) (g := (mkF m 39 #[rv a, rv fi, rv un, .val .null, iv df] [(.ref fi), (.int 0), (.ref ra), (.ref ra), .null, (.ref a)])) rfl rfl (hb hby d3_39)
  refine own_S (mkF m 40 #[rv a, rv fi, rv un, .val .null, iv df] [(.ref ra), .null, (.ref a)]) st71 ?_
  have F72 := F59.wr W71
  have F73 := F60.other W71 (Or.inl n55)
  have F74 := F61.other W71 (Or.inl n55)
  have F75 := F62.other W71 (Or.inl n55)
  have F76 := F63.other W71 (Or.inl n55)
  have F77 := F64.wr W71
  have F78 := F65.wr W71
  have F79 := F66.other W71 (Or.inl n56)
  have F80 := F67.other W71 (Or.inl n57)
  have F81 := F68.wr W71
  have F82 := F69.other W71 (Or.inl n58)
  have F83 : own_Ar Z h71 ra cA54 (.object "com/example/purgatory/purgatory/model/Retention") [(.ref fi), .null] := AR71
  have N71 := Fr.snoc X71 N42 ge_ra
  have Z71 : n0 ≤ h71.size := by rw [Wr.size W71]; exact Z54
  have hk71 : ks28 ≤ h71.size := by rw [Wr.size W71]; exact hk54
  have K71 : Keep h0 h71 [a] := K54.wr W71 (Or.inr fr_ra)
  refine own_S (mkF m 41 #[rv a, rv fi, rv un, .val .null, iv df] [(.ref ra), (.ref ra), .null, (.ref a)]) (fun _ k => XS.dup X71.here hx rfl (hb hby d3_40) rfl rfl k) ?_
  refine own_S (mkF m 42 #[rv a, rv fi, rv un, .val .null, iv df] [(.int 1), (.ref ra), (.ref ra), .null, (.ref a)]) (fun _ k => XS.iconst X71.here hx rfl (hb hby d3_41) k) ?_
  refine own_S (mkF m 43 #[rv a, rv fi, rv un, .val .null, iv df] [(.ref un), (.int 1), (.ref ra), (.ref ra), .null, (.ref a)]) (fun _ k => XS.aloadN X71.here hx rfl (hb hby d3_42) rfl rfl k) ?_
  obtain ⟨T84, h84, X84, e84, W84, AR84, st84⟩ := own_stR (j := (1 : Int32)) X71 hx hZ28 e71 F83 O54 (Ins.self F78) (by decide) (show (1 : Nat) < 2 from by decide) (g := (mkF m 43 #[rv a, rv fi, rv un, .val .null, iv df] [(.ref un), (.int 1), (.ref ra), (.ref ra), .null, (.ref a)])) rfl rfl (hb hby d3_43)
  refine own_S (mkF m 44 #[rv a, rv fi, rv un, .val .null, iv df] [(.ref ra), .null, (.ref a)]) st84 ?_
  have F85 := F72.wr W84
  have F86 := F73.other W84 (Or.inl n55)
  have F87 := F74.other W84 (Or.inl n55)
  have F88 := F75.other W84 (Or.inl n55)
  have F89 := F76.other W84 (Or.inl n55)
  have F90 := F77.wr W84
  have F91 := F78.wr W84
  have F92 := F79.other W84 (Or.inl n56)
  have F93 := F80.other W84 (Or.inl n57)
  have F94 := F81.wr W84
  have F95 := F82.other W84 (Or.inl n58)
  have F96 : own_Ar Z h84 ra cA54 (.object "com/example/purgatory/purgatory/model/Retention") [(.ref fi), (.ref un)] := AR84
  have N84 := Fr.snoc X84 N71 ge_ra
  have Z84 : n0 ≤ h84.size := by rw [Wr.size W84]; exact Z71
  have hk84 : ks28 ≤ h84.size := by rw [Wr.size W84]; exact hk71
  have K84 : Keep h0 h84 [a] := K71.wr W84 (Or.inr fr_ra)
  obtain ⟨_, _, ⟨T97, L97, k97, n97⟩, -, X97, ⟨Lc97, hQ97, l97, y97, z97⟩, st97⟩ := Jvm.LawKit.callS X84 hx (y := own_y8) hown28 (mvT hZ28 (own_g hw (i := 41) rfl)) (mvT hZ28 (own_g hw (i := 42) rfl)) (mvT hZ28 (own_g hw (i := 43) rfl)) (mvT hZ28 (own_g hw (i := 44) rfl)) (by decide) (backOf (W := 1) (own_rmrb l Z a0 hw [] (ra) (cA54) (fi) (un) (dl) h84 n0 Z84 F96 F90 F91 F92 F93 F94 F95) hZ28 (own_g hw (i := 44) rfl) (own_g hw (i := 43) rfl) (by decide) (by decide)) (g := (mkF m 44 #[rv a, rv fi, rv un, .val .null, iv df] [(.ref ra), .null, (.ref a)])) rfl (by rw [hml]; rfl) (argsL := [.null, (.ref ra)]) (rest := [(.ref a)]) (lenOf own_pd__Ljava_lang_Long__Lcom_example_purgatory_purgatory_model_Retention__Ljava_lang_Long_ rfl) rfl (by show 2 * 0 + _ ≤ _; exact Nat.le_of_eq rfl) (hb hby d3_44) (fun _ _ => ⟨rfl, e84, (by decide : 5 + 0 ≤ _), (by decide : 86 + 0 ≤ _)⟩)
  dsimp only [Pt.U, Pt.locs, Pt.cells, Pt.slots] at X97 l97 y97 z97 st97 hQ97
  subst l97 y97 z97
  obtain ⟨rfl, N97q, e97⟩ := hQ97
  have N97 := Fr.app N84 N97q
  refine own_S (mkF m 47 #[rv a, rv fi, rv un, .val .null, iv df] [.null, (.ref a)]) (fun _ k => st97 _ k) ?_
  obtain ⟨T98, h98, X98, e98, W98, st98⟩ := putF X97 hx hZ28 hown28 (host := "") (Or.inl (own_g hw (i := 64) rfl)) Via.refl e97 F88 F85 (Or.inr ⟨(own_g hw (i := 65) rfl), rfl, hnm⟩) (own_g hw (i := 18) rfl) (ty := (.object "java/lang/Long")) (by decide) rfl rfl (g := (mkF m 47 #[rv a, rv fi, rv un, .val .null, iv df] [.null, (.ref a)])) rfl rfl (hb hby d3_47)
  refine own_S (mkF m 50 #[rv a, rv fi, rv un, .val .null, iv df] []) st98 ?_
  have F99 := F85.wr W98
  have F100 := F86.other W98 (Or.inr (slot_ne (Or.inr (own_g hw (i := 9) rfl)) (Or.inr (own_g hw (i := 65) rfl)) (by decide) (t := (.object "com/example/purgatory/purgatory/model/Retention")) (t' := (.object "java/lang/Long")) (by decide) (by decide)))
  have F101 := F87.other W98 (Or.inr (slot_ne (Or.inr (own_g hw (i := 16) rfl)) (Or.inr (own_g hw (i := 65) rfl)) (by decide) (t := (.object "com/example/purgatory/purgatory/model/Retention")) (t' := (.object "java/lang/Long")) (by decide) (by decide)))
  have F102 := F88.same W98
  have F103 := F89.other W98 (Or.inr (slot_ne (Or.inr (own_g hw (i := 67) rfl)) (Or.inr (own_g hw (i := 65) rfl)) (by decide) (t := .boolean) (t' := (.object "java/lang/Long")) (by decide) (by decide)))
  have F104 := F90.wr W98
  have F105 := F91.wr W98
  have F106 := F92.other W98 (Or.inl (ne_exa F90 F85 (by decide)))
  have F107 := F93.other W98 (Or.inl (ne_exa F91 F85 (by decide)))
  have F108 := F94.wr W98
  have F109 := F95.other W98 (Or.inl (ne_exa F94 F85 (by decide)))
  have F110 := F96.other W98 (Ne.symm n55)
  have N98 := Fr.snoc X98 N97 G_a
  have Z98 : n0 ≤ h98.size := by rw [Wr.size W98]; exact Z84
  have hk98 : ks28 ≤ h98.size := by rw [Wr.size W98]; exact hk84
  have K98 : Keep h0 h98 [a] := K84.wr W98 (Or.inl (List.mem_of_getElem? (i := 0) rfl))
  refine own_S (mkF m 51 #[rv a, rv fi, rv un, .val .null, iv df] [(.ref a)]) (fun _ k => XS.aloadN X98.here hx rfl (hb hby d3_50) rfl rfl k) ?_
  refine own_S (mkF m 53 #[rv a, rv fi, rv un, .val .null, iv df] [(.int df), (.ref a)]) (fun _ k => XS.iload X98.here hx rfl (hb hby d3_51) rfl k) ?_
  obtain ⟨T111, h111, X111, e111, W111, st111⟩ := putFN X98 hx hZ28 hown28 (own_g hw (i := 66) rfl) Via.refl e98 F103 F99 (Or.inr ⟨(own_g hw (i := 67) rfl), rfl, hnm⟩) (own_g hw (i := 18) rfl) (ty := .boolean) (by decide) (v' := (.int (nar .boolean df))) rfl (fits_nar_bool _) (g := (mkF m 53 #[rv a, rv fi, rv un, .val .null, iv df] [(.int df), (.ref a)])) rfl rfl (hb hby d3_53)
  refine own_S (mkF m 56 #[rv a, rv fi, rv un, .val .null, iv df] []) st111 ?_
  have F112 := F99.wr W111
  have F113 := F100.other W111 (Or.inr (slot_ne (Or.inr (own_g hw (i := 9) rfl)) (Or.inr (own_g hw (i := 67) rfl)) (by decide) (t := (.object "com/example/purgatory/purgatory/model/Retention")) (t' := .boolean) (by decide) (by decide)))
  have F114 := F101.other W111 (Or.inr (slot_ne (Or.inr (own_g hw (i := 16) rfl)) (Or.inr (own_g hw (i := 67) rfl)) (by decide) (t := (.object "com/example/purgatory/purgatory/model/Retention")) (t' := .boolean) (by decide) (by decide)))
  have F115 := F102.other W111 (Or.inr (slot_ne (Or.inr (own_g hw (i := 65) rfl)) (Or.inr (own_g hw (i := 67) rfl)) (by decide) (t := (.object "java/lang/Long")) (t' := .boolean) (by decide) (by decide)))
  have F116 := F103.same W111
  have F117 := F104.wr W111
  have F118 := F105.wr W111
  have F119 := F106.other W111 (Or.inl (ne_exa F104 F99 (by decide)))
  have F120 := F107.other W111 (Or.inl (ne_exa F105 F99 (by decide)))
  have F121 := F108.wr W111
  have F122 := F109.other W111 (Or.inl (ne_exa F108 F99 (by decide)))
  have F123 := F110.other W111 (Ne.symm n55)
  have N111 := Fr.snoc X111 N98 G_a
  have Z111 : n0 ≤ h111.size := by rw [Wr.size W111]; exact Z98
  have hk111 : ks28 ≤ h111.size := by rw [Wr.size W111]; exact hk98
  have K111 : Keep h0 h111 [a] := K98.wr W111 (Or.inl (List.mem_of_getElem? (i := 0) rfl))
  exact own_retW0 (vm₁ := T28.vm) X111 hS28 (show _ ≤ T111.heap.size by rw [e111]; exact hk111) hx hlk hret (hb hby d3_56) (by rw [e111]; exact ⟨rfl, N111, K111, F112, F113, F114⟩) (by decide) (by decide)
theorem d10_0 : decode method_3_code 0 = .ok (.iload_n 0, 1) := by decide +kernel
theorem d10_1 : decode method_3_code 1 = .ok (.ifCond .ne 7, 3) := by decide +kernel
theorem d10_4 : decode method_3_code 4 = .ok (.getstatic 44, 3) := by decide +kernel
theorem d10_7 : decode method_3_code 7 = .ok (.areturn, 1) := by decide +kernel
theorem own_pf_st0 : plainFor own_y10 = true := by first | exact plainFor_of_name (show plainName "com/example/purgatory/purgatory/model/QueueRetentionPolicyRetentionOfPinLaw" = true by first | (simp [plainName, overriddenIn]; done) | decide +kernel) | decide +kernel
theorem own_ef_st0 (m : MethodId) (y0 : Int32) : entryFrame m #[(.int y0)] 1 = mkF m 0 #[iv y0] [] := by first | (simp [entryFrame, mkF, argsToLocals, Value.category]; done) | rfl
def own_Qst0 (Z : State) (b0 : Addr) (h0 : Heap) (n0 : Nat) (v : Option Value) (h : Heap) (L : List Loc) : Prop := v = some (.ref b0) ∧ Fr n0 L ∧ h = h0
set_option maxRecDepth 65536 in
set_option maxHeartbeats 40000000 in
theorem own_rmst0 (l : Launch) (Z : State) (a0 : Array Value) (hw : ∀ d ∈ tables_1, d.before a0 Z = true) (ws : List Jvm.Cond) (b0 : Addr) (h0 : Heap) (n0 : Nat) (Z0 : n0 ≤ h0.size) (P0 : Sta Z h0 "com/example/purgatory/purgatory/model/QueueItemStatus" "NEW" "Lcom/example/purgatory/purgatory/model/QueueItemStatus;" (.ref b0)) :
    MetFree l own_y10 (head1 (Jvm.Cond.code own_y10 method_3_code 1 (some (.object "com/example/purgatory/purgatory/model/QueueItemStatus")) :: ws) ({ frames := 0, cells := 0, slots := 0, locals := 0 } : Room)) (fun az Uz => az = #[(.int 0)] ∧ Z.Warmed39 Uz.vm ∧ Uz.heap = h0) (fun _ _ _ _ _ => True) (fun _ U o U' => ∃ v L, o = .returned v ∧ own_Qst0 Z b0 h0 n0 v U'.heap L ∧ FrameEnd U o U' L ({ frames := 0, cells := 0, slots := 0, locals := 0 } : Room).cells ({ frames := 0, cells := 0, slots := 0, locals := 0 } : Room).slots) := by
  refine MetFree.of_bodySF own_pf_st0 hisR ?_
  intro p e s m args below meth c s₁ Bd hml0 hP hK
  obtain ⟨rfl, hZ, hh⟩ := hP
  have hx := Bd.exec
  have hby := Bd.bytes
  have hml : c.maxLocals = 1 := hml0
  have hown : s.vm.findClass "com/example/purgatory/purgatory/model/QueueRetentionPolicyRetentionOfPinLaw" = some m.cls := findClass_of_methodNamed Bd.named
  have hnm := (name_of_methodNamed Bd.named Bd.method).1
  have hlk : meth.locks = false := BodyLoose.notSynchronized Bd
  have hret := Bd.returns
  have X0 : Stand p l e ({ frames := 0, cells := 0, slots := 0, locals := 0 } : Room) s m #[(.int 0)] below meth c s₁ [] 0 0 := Stand.of_body Bd
  have e0 : s₁.heap = h0 := by rw [← hh, Bd.state]; rfl
  have N0 := Fr.nil n0
  show own_E p e below (own_K s (own_Qst0 Z b0 h0 n0) ({ frames := 0, cells := 0, slots := 0, locals := 0 } : Room).cells ({ frames := 0, cells := 0, slots := 0, locals := 0 } : Room).slots) s₁ (entryFrame m #[(.int 0)] 1)
  refine own_S (mkF m 0 #[.val (.int 0)] []) (fun _ k => castTop (own_ef_st0 m ((0 : Int32))) k) ?_
  refine own_S (mkF m 1 #[.val (.int 0)] [(.int 0)]) (fun _ k => XS.iloadN X0.here hx rfl (hb hby d10_0) rfl k) ?_
  have hc1 : (0 : Int32) = (0 : Int32) := by decide
  refine own_S (mkF m 4 #[.val (.int 0)] []) (fun _ k => XS.ifNo X0.here hx rfl (hb hby d10_1) rfl ((if0 _ _).trans (teq hc1).2) k) ?_
  obtain ⟨T2, X2, e2, st2⟩ := getS (host := "") X0 hx hZ hown (own_g hw (i := 73) rfl) Via.refl e0 P0 (g := (mkF m 4 #[.val (.int 0)] [])) rfl (hb hby d10_4)
  refine own_S (mkF m 7 #[.val (.int 0)] [(.ref b0)]) st2 ?_
  exact own_ret X2 hx hlk (t := (.object "com/example/purgatory/purgatory/model/QueueItemStatus")) hret rfl (Or.inr (Or.inr (Or.inr (Or.inr ⟨rfl, rfl, rfl⟩)))) (hb hby d10_7) (by rw [e2]; exact ⟨rfl, N0, rfl⟩) (by decide) (by decide)
theorem d10_8 : decode method_3_code 8 = .ok (.iload_n 0, 1) := by decide +kernel
theorem d10_9 : decode method_3_code 9 = .ok (.iconst 1, 1) := by decide +kernel
theorem d10_10 : decode method_3_code 10 = .ok (.if_icmp .ne 7, 3) := by decide +kernel
theorem d10_13 : decode method_3_code 13 = .ok (.getstatic 50, 3) := by decide +kernel
theorem d10_16 : decode method_3_code 16 = .ok (.areturn, 1) := by decide +kernel
theorem own_pf_st1 : plainFor own_y10 = true := by first | exact plainFor_of_name (show plainName "com/example/purgatory/purgatory/model/QueueRetentionPolicyRetentionOfPinLaw" = true by first | (simp [plainName, overriddenIn]; done) | decide +kernel) | decide +kernel
theorem own_ef_st1 (m : MethodId) (y0 : Int32) : entryFrame m #[(.int y0)] 1 = mkF m 0 #[iv y0] [] := by first | (simp [entryFrame, mkF, argsToLocals, Value.category]; done) | rfl
def own_Qst1 (Z : State) (b1 : Addr) (h0 : Heap) (n0 : Nat) (v : Option Value) (h : Heap) (L : List Loc) : Prop := v = some (.ref b1) ∧ Fr n0 L ∧ h = h0
set_option maxRecDepth 65536 in
set_option maxHeartbeats 40000000 in
theorem own_rmst1 (l : Launch) (Z : State) (a0 : Array Value) (hw : ∀ d ∈ tables_1, d.before a0 Z = true) (ws : List Jvm.Cond) (b1 : Addr) (h0 : Heap) (n0 : Nat) (Z0 : n0 ≤ h0.size) (P0 : Sta Z h0 "com/example/purgatory/purgatory/model/QueueItemStatus" "IN_PROGRESS" "Lcom/example/purgatory/purgatory/model/QueueItemStatus;" (.ref b1)) :
    MetFree l own_y10 (head1 (Jvm.Cond.code own_y10 method_3_code 1 (some (.object "com/example/purgatory/purgatory/model/QueueItemStatus")) :: ws) ({ frames := 0, cells := 0, slots := 0, locals := 0 } : Room)) (fun az Uz => az = #[(.int 1)] ∧ Z.Warmed39 Uz.vm ∧ Uz.heap = h0) (fun _ _ _ _ _ => True) (fun _ U o U' => ∃ v L, o = .returned v ∧ own_Qst1 Z b1 h0 n0 v U'.heap L ∧ FrameEnd U o U' L ({ frames := 0, cells := 0, slots := 0, locals := 0 } : Room).cells ({ frames := 0, cells := 0, slots := 0, locals := 0 } : Room).slots) := by
  refine MetFree.of_bodySF own_pf_st1 hisR ?_
  intro p e s m args below meth c s₁ Bd hml0 hP hK
  obtain ⟨rfl, hZ, hh⟩ := hP
  have hx := Bd.exec
  have hby := Bd.bytes
  have hml : c.maxLocals = 1 := hml0
  have hown : s.vm.findClass "com/example/purgatory/purgatory/model/QueueRetentionPolicyRetentionOfPinLaw" = some m.cls := findClass_of_methodNamed Bd.named
  have hnm := (name_of_methodNamed Bd.named Bd.method).1
  have hlk : meth.locks = false := BodyLoose.notSynchronized Bd
  have hret := Bd.returns
  have X0 : Stand p l e ({ frames := 0, cells := 0, slots := 0, locals := 0 } : Room) s m #[(.int 1)] below meth c s₁ [] 0 0 := Stand.of_body Bd
  have e0 : s₁.heap = h0 := by rw [← hh, Bd.state]; rfl
  have N0 := Fr.nil n0
  show own_E p e below (own_K s (own_Qst1 Z b1 h0 n0) ({ frames := 0, cells := 0, slots := 0, locals := 0 } : Room).cells ({ frames := 0, cells := 0, slots := 0, locals := 0 } : Room).slots) s₁ (entryFrame m #[(.int 1)] 1)
  refine own_S (mkF m 0 #[.val (.int 1)] []) (fun _ k => castTop (own_ef_st1 m ((1 : Int32))) k) ?_
  refine own_S (mkF m 1 #[.val (.int 1)] [(.int 1)]) (fun _ k => XS.iloadN X0.here hx rfl (hb hby d10_0) rfl k) ?_
  have hc1 : ¬ ((1 : Int32) = (0 : Int32)) := by decide
  refine own_S (mkF m 8 #[.val (.int 1)] []) (fun _ k => XS.ifYes X0.here hx rfl (pc0 := 1) (pc' := 8) rfl (hb hby d10_1) rfl ((if0 _ _).trans (feq hc1).2) (by decide) (by decide) k) ?_
  refine own_S (mkF m 9 #[.val (.int 1)] [(.int 1)]) (fun _ k => XS.iloadN X0.here hx rfl (hb hby d10_8) rfl k) ?_
  refine own_S (mkF m 10 #[.val (.int 1)] [(.int 1), (.int 1)]) (fun _ k => XS.iconst X0.here hx rfl (hb hby d10_9) k) ?_
  have hc2 : (1 : Int32) = (1 : Int32) := by decide
  refine own_S (mkF m 13 #[.val (.int 1)] []) (fun _ k => XS.icmpNo X0.here hx rfl (hb hby d10_10) rfl (teq hc2).2 k) ?_
  obtain ⟨T3, X3, e3, st3⟩ := getS (host := "") X0 hx hZ hown (own_g hw (i := 121) rfl) Via.refl e0 P0 (g := (mkF m 13 #[.val (.int 1)] [])) rfl (hb hby d10_13)
  refine own_S (mkF m 16 #[.val (.int 1)] [(.ref b1)]) st3 ?_
  exact own_ret X3 hx hlk (t := (.object "com/example/purgatory/purgatory/model/QueueItemStatus")) hret rfl (Or.inr (Or.inr (Or.inr (Or.inr ⟨rfl, rfl, rfl⟩)))) (hb hby d10_16) (by rw [e3]; exact ⟨rfl, N0, rfl⟩) (by decide) (by decide)
theorem d10_17 : decode method_3_code 17 = .ok (.iload_n 0, 1) := by decide +kernel
theorem d10_18 : decode method_3_code 18 = .ok (.iconst 2, 1) := by decide +kernel
theorem d10_19 : decode method_3_code 19 = .ok (.if_icmp .ne 7, 3) := by decide +kernel
theorem d10_22 : decode method_3_code 22 = .ok (.getstatic 53, 3) := by decide +kernel
theorem d10_25 : decode method_3_code 25 = .ok (.areturn, 1) := by decide +kernel
theorem own_pf_st2 : plainFor own_y10 = true := by first | exact plainFor_of_name (show plainName "com/example/purgatory/purgatory/model/QueueRetentionPolicyRetentionOfPinLaw" = true by first | (simp [plainName, overriddenIn]; done) | decide +kernel) | decide +kernel
theorem own_ef_st2 (m : MethodId) (y0 : Int32) : entryFrame m #[(.int y0)] 1 = mkF m 0 #[iv y0] [] := by first | (simp [entryFrame, mkF, argsToLocals, Value.category]; done) | rfl
def own_Qst2 (Z : State) (b2 : Addr) (h0 : Heap) (n0 : Nat) (v : Option Value) (h : Heap) (L : List Loc) : Prop := v = some (.ref b2) ∧ Fr n0 L ∧ h = h0
set_option maxRecDepth 65536 in
set_option maxHeartbeats 40000000 in
theorem own_rmst2 (l : Launch) (Z : State) (a0 : Array Value) (hw : ∀ d ∈ tables_1, d.before a0 Z = true) (ws : List Jvm.Cond) (b2 : Addr) (h0 : Heap) (n0 : Nat) (Z0 : n0 ≤ h0.size) (P0 : Sta Z h0 "com/example/purgatory/purgatory/model/QueueItemStatus" "FAILED" "Lcom/example/purgatory/purgatory/model/QueueItemStatus;" (.ref b2)) :
    MetFree l own_y10 (head1 (Jvm.Cond.code own_y10 method_3_code 1 (some (.object "com/example/purgatory/purgatory/model/QueueItemStatus")) :: ws) ({ frames := 0, cells := 0, slots := 0, locals := 0 } : Room)) (fun az Uz => az = #[(.int 2)] ∧ Z.Warmed39 Uz.vm ∧ Uz.heap = h0) (fun _ _ _ _ _ => True) (fun _ U o U' => ∃ v L, o = .returned v ∧ own_Qst2 Z b2 h0 n0 v U'.heap L ∧ FrameEnd U o U' L ({ frames := 0, cells := 0, slots := 0, locals := 0 } : Room).cells ({ frames := 0, cells := 0, slots := 0, locals := 0 } : Room).slots) := by
  refine MetFree.of_bodySF own_pf_st2 hisR ?_
  intro p e s m args below meth c s₁ Bd hml0 hP hK
  obtain ⟨rfl, hZ, hh⟩ := hP
  have hx := Bd.exec
  have hby := Bd.bytes
  have hml : c.maxLocals = 1 := hml0
  have hown : s.vm.findClass "com/example/purgatory/purgatory/model/QueueRetentionPolicyRetentionOfPinLaw" = some m.cls := findClass_of_methodNamed Bd.named
  have hnm := (name_of_methodNamed Bd.named Bd.method).1
  have hlk : meth.locks = false := BodyLoose.notSynchronized Bd
  have hret := Bd.returns
  have X0 : Stand p l e ({ frames := 0, cells := 0, slots := 0, locals := 0 } : Room) s m #[(.int 2)] below meth c s₁ [] 0 0 := Stand.of_body Bd
  have e0 : s₁.heap = h0 := by rw [← hh, Bd.state]; rfl
  have N0 := Fr.nil n0
  show own_E p e below (own_K s (own_Qst2 Z b2 h0 n0) ({ frames := 0, cells := 0, slots := 0, locals := 0 } : Room).cells ({ frames := 0, cells := 0, slots := 0, locals := 0 } : Room).slots) s₁ (entryFrame m #[(.int 2)] 1)
  refine own_S (mkF m 0 #[.val (.int 2)] []) (fun _ k => castTop (own_ef_st2 m ((2 : Int32))) k) ?_
  refine own_S (mkF m 1 #[.val (.int 2)] [(.int 2)]) (fun _ k => XS.iloadN X0.here hx rfl (hb hby d10_0) rfl k) ?_
  have hc1 : ¬ ((2 : Int32) = (0 : Int32)) := by decide
  refine own_S (mkF m 8 #[.val (.int 2)] []) (fun _ k => XS.ifYes X0.here hx rfl (pc0 := 1) (pc' := 8) rfl (hb hby d10_1) rfl ((if0 _ _).trans (feq hc1).2) (by decide) (by decide) k) ?_
  refine own_S (mkF m 9 #[.val (.int 2)] [(.int 2)]) (fun _ k => XS.iloadN X0.here hx rfl (hb hby d10_8) rfl k) ?_
  refine own_S (mkF m 10 #[.val (.int 2)] [(.int 1), (.int 2)]) (fun _ k => XS.iconst X0.here hx rfl (hb hby d10_9) k) ?_
  have hc2 : ¬ ((2 : Int32) = (1 : Int32)) := by decide
  refine own_S (mkF m 17 #[.val (.int 2)] []) (fun _ k => XS.icmpYes X0.here hx rfl (pc0 := 10) (pc' := 17) rfl (hb hby d10_10) rfl (feq hc2).2 (by decide) (by decide) k) ?_
  refine own_S (mkF m 18 #[.val (.int 2)] [(.int 2)]) (fun _ k => XS.iloadN X0.here hx rfl (hb hby d10_17) rfl k) ?_
  refine own_S (mkF m 19 #[.val (.int 2)] [(.int 2), (.int 2)]) (fun _ k => XS.iconst X0.here hx rfl (hb hby d10_18) k) ?_
  have hc3 : (2 : Int32) = (2 : Int32) := by decide
  refine own_S (mkF m 22 #[.val (.int 2)] []) (fun _ k => XS.icmpNo X0.here hx rfl (hb hby d10_19) rfl (teq hc3).2 k) ?_
  obtain ⟨T4, X4, e4, st4⟩ := getS (host := "") X0 hx hZ hown (own_g hw (i := 129) rfl) Via.refl e0 P0 (g := (mkF m 22 #[.val (.int 2)] [])) rfl (hb hby d10_22)
  refine own_S (mkF m 25 #[.val (.int 2)] [(.ref b2)]) st4 ?_
  exact own_ret X4 hx hlk (t := (.object "com/example/purgatory/purgatory/model/QueueItemStatus")) hret rfl (Or.inr (Or.inr (Or.inr (Or.inr ⟨rfl, rfl, rfl⟩)))) (hb hby d10_25) (by rw [e4]; exact ⟨rfl, N0, rfl⟩) (by decide) (by decide)
theorem d10_26 : decode method_3_code 26 = .ok (.iload_n 0, 1) := by decide +kernel
theorem d10_27 : decode method_3_code 27 = .ok (.iconst 3, 1) := by decide +kernel
theorem d10_28 : decode method_3_code 28 = .ok (.if_icmp .ne 7, 3) := by decide +kernel
theorem d10_31 : decode method_3_code 31 = .ok (.getstatic 56, 3) := by decide +kernel
theorem d10_34 : decode method_3_code 34 = .ok (.areturn, 1) := by decide +kernel
theorem own_pf_st3 : plainFor own_y10 = true := by first | exact plainFor_of_name (show plainName "com/example/purgatory/purgatory/model/QueueRetentionPolicyRetentionOfPinLaw" = true by first | (simp [plainName, overriddenIn]; done) | decide +kernel) | decide +kernel
theorem own_ef_st3 (m : MethodId) (y0 : Int32) : entryFrame m #[(.int y0)] 1 = mkF m 0 #[iv y0] [] := by first | (simp [entryFrame, mkF, argsToLocals, Value.category]; done) | rfl
def own_Qst3 (Z : State) (b3 : Addr) (h0 : Heap) (n0 : Nat) (v : Option Value) (h : Heap) (L : List Loc) : Prop := v = some (.ref b3) ∧ Fr n0 L ∧ h = h0
set_option maxRecDepth 65536 in
set_option maxHeartbeats 40000000 in
theorem own_rmst3 (l : Launch) (Z : State) (a0 : Array Value) (hw : ∀ d ∈ tables_1, d.before a0 Z = true) (ws : List Jvm.Cond) (b3 : Addr) (h0 : Heap) (n0 : Nat) (Z0 : n0 ≤ h0.size) (P0 : Sta Z h0 "com/example/purgatory/purgatory/model/QueueItemStatus" "SUCCESSFUL" "Lcom/example/purgatory/purgatory/model/QueueItemStatus;" (.ref b3)) :
    MetFree l own_y10 (head1 (Jvm.Cond.code own_y10 method_3_code 1 (some (.object "com/example/purgatory/purgatory/model/QueueItemStatus")) :: ws) ({ frames := 0, cells := 0, slots := 0, locals := 0 } : Room)) (fun az Uz => az = #[(.int 3)] ∧ Z.Warmed39 Uz.vm ∧ Uz.heap = h0) (fun _ _ _ _ _ => True) (fun _ U o U' => ∃ v L, o = .returned v ∧ own_Qst3 Z b3 h0 n0 v U'.heap L ∧ FrameEnd U o U' L ({ frames := 0, cells := 0, slots := 0, locals := 0 } : Room).cells ({ frames := 0, cells := 0, slots := 0, locals := 0 } : Room).slots) := by
  refine MetFree.of_bodySF own_pf_st3 hisR ?_
  intro p e s m args below meth c s₁ Bd hml0 hP hK
  obtain ⟨rfl, hZ, hh⟩ := hP
  have hx := Bd.exec
  have hby := Bd.bytes
  have hml : c.maxLocals = 1 := hml0
  have hown : s.vm.findClass "com/example/purgatory/purgatory/model/QueueRetentionPolicyRetentionOfPinLaw" = some m.cls := findClass_of_methodNamed Bd.named
  have hnm := (name_of_methodNamed Bd.named Bd.method).1
  have hlk : meth.locks = false := BodyLoose.notSynchronized Bd
  have hret := Bd.returns
  have X0 : Stand p l e ({ frames := 0, cells := 0, slots := 0, locals := 0 } : Room) s m #[(.int 3)] below meth c s₁ [] 0 0 := Stand.of_body Bd
  have e0 : s₁.heap = h0 := by rw [← hh, Bd.state]; rfl
  have N0 := Fr.nil n0
  show own_E p e below (own_K s (own_Qst3 Z b3 h0 n0) ({ frames := 0, cells := 0, slots := 0, locals := 0 } : Room).cells ({ frames := 0, cells := 0, slots := 0, locals := 0 } : Room).slots) s₁ (entryFrame m #[(.int 3)] 1)
  refine own_S (mkF m 0 #[.val (.int 3)] []) (fun _ k => castTop (own_ef_st3 m ((3 : Int32))) k) ?_
  refine own_S (mkF m 1 #[.val (.int 3)] [(.int 3)]) (fun _ k => XS.iloadN X0.here hx rfl (hb hby d10_0) rfl k) ?_
  have hc1 : ¬ ((3 : Int32) = (0 : Int32)) := by decide
  refine own_S (mkF m 8 #[.val (.int 3)] []) (fun _ k => XS.ifYes X0.here hx rfl (pc0 := 1) (pc' := 8) rfl (hb hby d10_1) rfl ((if0 _ _).trans (feq hc1).2) (by decide) (by decide) k) ?_
  refine own_S (mkF m 9 #[.val (.int 3)] [(.int 3)]) (fun _ k => XS.iloadN X0.here hx rfl (hb hby d10_8) rfl k) ?_
  refine own_S (mkF m 10 #[.val (.int 3)] [(.int 1), (.int 3)]) (fun _ k => XS.iconst X0.here hx rfl (hb hby d10_9) k) ?_
  have hc2 : ¬ ((3 : Int32) = (1 : Int32)) := by decide
  refine own_S (mkF m 17 #[.val (.int 3)] []) (fun _ k => XS.icmpYes X0.here hx rfl (pc0 := 10) (pc' := 17) rfl (hb hby d10_10) rfl (feq hc2).2 (by decide) (by decide) k) ?_
  refine own_S (mkF m 18 #[.val (.int 3)] [(.int 3)]) (fun _ k => XS.iloadN X0.here hx rfl (hb hby d10_17) rfl k) ?_
  refine own_S (mkF m 19 #[.val (.int 3)] [(.int 2), (.int 3)]) (fun _ k => XS.iconst X0.here hx rfl (hb hby d10_18) k) ?_
  have hc3 : ¬ ((3 : Int32) = (2 : Int32)) := by decide
  refine own_S (mkF m 26 #[.val (.int 3)] []) (fun _ k => XS.icmpYes X0.here hx rfl (pc0 := 19) (pc' := 26) rfl (hb hby d10_19) rfl (feq hc3).2 (by decide) (by decide) k) ?_
  refine own_S (mkF m 27 #[.val (.int 3)] [(.int 3)]) (fun _ k => XS.iloadN X0.here hx rfl (hb hby d10_26) rfl k) ?_
  refine own_S (mkF m 28 #[.val (.int 3)] [(.int 3), (.int 3)]) (fun _ k => XS.iconst X0.here hx rfl (hb hby d10_27) k) ?_
  have hc4 : (3 : Int32) = (3 : Int32) := by decide
  refine own_S (mkF m 31 #[.val (.int 3)] []) (fun _ k => XS.icmpNo X0.here hx rfl (hb hby d10_28) rfl (teq hc4).2 k) ?_
  obtain ⟨T5, X5, e5, st5⟩ := getS (host := "") X0 hx hZ hown (own_g hw (i := 119) rfl) Via.refl e0 P0 (g := (mkF m 31 #[.val (.int 3)] [])) rfl (hb hby d10_31)
  refine own_S (mkF m 34 #[.val (.int 3)] [(.ref b3)]) st5 ?_
  exact own_ret X5 hx hlk (t := (.object "com/example/purgatory/purgatory/model/QueueItemStatus")) hret rfl (Or.inr (Or.inr (Or.inr (Or.inr ⟨rfl, rfl, rfl⟩)))) (hb hby d10_34) (by rw [e5]; exact ⟨rfl, N0, rfl⟩) (by decide) (by decide)
theorem d10_35 : decode method_3_code 35 = .ok (.iload_n 0, 1) := by decide +kernel
theorem d10_36 : decode method_3_code 36 = .ok (.iconst 4, 1) := by decide +kernel
theorem d10_37 : decode method_3_code 37 = .ok (.if_icmp .ne 7, 3) := by decide +kernel
theorem d10_40 : decode method_3_code 40 = .ok (.getstatic 59, 3) := by decide +kernel
theorem d10_43 : decode method_3_code 43 = .ok (.areturn, 1) := by decide +kernel
theorem own_pf_st4 : plainFor own_y10 = true := by first | exact plainFor_of_name (show plainName "com/example/purgatory/purgatory/model/QueueRetentionPolicyRetentionOfPinLaw" = true by first | (simp [plainName, overriddenIn]; done) | decide +kernel) | decide +kernel
theorem own_ef_st4 (m : MethodId) (y0 : Int32) : entryFrame m #[(.int y0)] 1 = mkF m 0 #[iv y0] [] := by first | (simp [entryFrame, mkF, argsToLocals, Value.category]; done) | rfl
def own_Qst4 (Z : State) (b4 : Addr) (h0 : Heap) (n0 : Nat) (v : Option Value) (h : Heap) (L : List Loc) : Prop := v = some (.ref b4) ∧ Fr n0 L ∧ h = h0
set_option maxRecDepth 65536 in
set_option maxHeartbeats 40000000 in
theorem own_rmst4 (l : Launch) (Z : State) (a0 : Array Value) (hw : ∀ d ∈ tables_1, d.before a0 Z = true) (ws : List Jvm.Cond) (b4 : Addr) (h0 : Heap) (n0 : Nat) (Z0 : n0 ≤ h0.size) (P0 : Sta Z h0 "com/example/purgatory/purgatory/model/QueueItemStatus" "ABANDONED" "Lcom/example/purgatory/purgatory/model/QueueItemStatus;" (.ref b4)) :
    MetFree l own_y10 (head1 (Jvm.Cond.code own_y10 method_3_code 1 (some (.object "com/example/purgatory/purgatory/model/QueueItemStatus")) :: ws) ({ frames := 0, cells := 0, slots := 0, locals := 0 } : Room)) (fun az Uz => az = #[(.int 4)] ∧ Z.Warmed39 Uz.vm ∧ Uz.heap = h0) (fun _ _ _ _ _ => True) (fun _ U o U' => ∃ v L, o = .returned v ∧ own_Qst4 Z b4 h0 n0 v U'.heap L ∧ FrameEnd U o U' L ({ frames := 0, cells := 0, slots := 0, locals := 0 } : Room).cells ({ frames := 0, cells := 0, slots := 0, locals := 0 } : Room).slots) := by
  refine MetFree.of_bodySF own_pf_st4 hisR ?_
  intro p e s m args below meth c s₁ Bd hml0 hP hK
  obtain ⟨rfl, hZ, hh⟩ := hP
  have hx := Bd.exec
  have hby := Bd.bytes
  have hml : c.maxLocals = 1 := hml0
  have hown : s.vm.findClass "com/example/purgatory/purgatory/model/QueueRetentionPolicyRetentionOfPinLaw" = some m.cls := findClass_of_methodNamed Bd.named
  have hnm := (name_of_methodNamed Bd.named Bd.method).1
  have hlk : meth.locks = false := BodyLoose.notSynchronized Bd
  have hret := Bd.returns
  have X0 : Stand p l e ({ frames := 0, cells := 0, slots := 0, locals := 0 } : Room) s m #[(.int 4)] below meth c s₁ [] 0 0 := Stand.of_body Bd
  have e0 : s₁.heap = h0 := by rw [← hh, Bd.state]; rfl
  have N0 := Fr.nil n0
  show own_E p e below (own_K s (own_Qst4 Z b4 h0 n0) ({ frames := 0, cells := 0, slots := 0, locals := 0 } : Room).cells ({ frames := 0, cells := 0, slots := 0, locals := 0 } : Room).slots) s₁ (entryFrame m #[(.int 4)] 1)
  refine own_S (mkF m 0 #[.val (.int 4)] []) (fun _ k => castTop (own_ef_st4 m ((4 : Int32))) k) ?_
  refine own_S (mkF m 1 #[.val (.int 4)] [(.int 4)]) (fun _ k => XS.iloadN X0.here hx rfl (hb hby d10_0) rfl k) ?_
  have hc1 : ¬ ((4 : Int32) = (0 : Int32)) := by decide
  refine own_S (mkF m 8 #[.val (.int 4)] []) (fun _ k => XS.ifYes X0.here hx rfl (pc0 := 1) (pc' := 8) rfl (hb hby d10_1) rfl ((if0 _ _).trans (feq hc1).2) (by decide) (by decide) k) ?_
  refine own_S (mkF m 9 #[.val (.int 4)] [(.int 4)]) (fun _ k => XS.iloadN X0.here hx rfl (hb hby d10_8) rfl k) ?_
  refine own_S (mkF m 10 #[.val (.int 4)] [(.int 1), (.int 4)]) (fun _ k => XS.iconst X0.here hx rfl (hb hby d10_9) k) ?_
  have hc2 : ¬ ((4 : Int32) = (1 : Int32)) := by decide
  refine own_S (mkF m 17 #[.val (.int 4)] []) (fun _ k => XS.icmpYes X0.here hx rfl (pc0 := 10) (pc' := 17) rfl (hb hby d10_10) rfl (feq hc2).2 (by decide) (by decide) k) ?_
  refine own_S (mkF m 18 #[.val (.int 4)] [(.int 4)]) (fun _ k => XS.iloadN X0.here hx rfl (hb hby d10_17) rfl k) ?_
  refine own_S (mkF m 19 #[.val (.int 4)] [(.int 2), (.int 4)]) (fun _ k => XS.iconst X0.here hx rfl (hb hby d10_18) k) ?_
  have hc3 : ¬ ((4 : Int32) = (2 : Int32)) := by decide
  refine own_S (mkF m 26 #[.val (.int 4)] []) (fun _ k => XS.icmpYes X0.here hx rfl (pc0 := 19) (pc' := 26) rfl (hb hby d10_19) rfl (feq hc3).2 (by decide) (by decide) k) ?_
  refine own_S (mkF m 27 #[.val (.int 4)] [(.int 4)]) (fun _ k => XS.iloadN X0.here hx rfl (hb hby d10_26) rfl k) ?_
  refine own_S (mkF m 28 #[.val (.int 4)] [(.int 3), (.int 4)]) (fun _ k => XS.iconst X0.here hx rfl (hb hby d10_27) k) ?_
  have hc4 : ¬ ((4 : Int32) = (3 : Int32)) := by decide
  refine own_S (mkF m 35 #[.val (.int 4)] []) (fun _ k => XS.icmpYes X0.here hx rfl (pc0 := 28) (pc' := 35) rfl (hb hby d10_28) rfl (feq hc4).2 (by decide) (by decide) k) ?_
  refine own_S (mkF m 36 #[.val (.int 4)] [(.int 4)]) (fun _ k => XS.iloadN X0.here hx rfl (hb hby d10_35) rfl k) ?_
  refine own_S (mkF m 37 #[.val (.int 4)] [(.int 4), (.int 4)]) (fun _ k => XS.iconst X0.here hx rfl (hb hby d10_36) k) ?_
  have hc5 : (4 : Int32) = (4 : Int32) := by decide
  refine own_S (mkF m 40 #[.val (.int 4)] []) (fun _ k => XS.icmpNo X0.here hx rfl (hb hby d10_37) rfl (teq hc5).2 k) ?_
  obtain ⟨T6, X6, e6, st6⟩ := getS (host := "") X0 hx hZ hown (own_g hw (i := 123) rfl) Via.refl e0 P0 (g := (mkF m 40 #[.val (.int 4)] [])) rfl (hb hby d10_40)
  refine own_S (mkF m 43 #[.val (.int 4)] [(.ref b4)]) st6 ?_
  exact own_ret X6 hx hlk (t := (.object "com/example/purgatory/purgatory/model/QueueItemStatus")) hret rfl (Or.inr (Or.inr (Or.inr (Or.inr ⟨rfl, rfl, rfl⟩)))) (hb hby d10_43) (by rw [e6]; exact ⟨rfl, N0, rfl⟩) (by decide) (by decide)
theorem d10_44 : decode method_3_code 44 = .ok (.iload_n 0, 1) := by decide +kernel
theorem d10_45 : decode method_3_code 45 = .ok (.iconst 5, 1) := by decide +kernel
theorem d10_46 : decode method_3_code 46 = .ok (.if_icmp .ne 7, 3) := by decide +kernel
theorem d10_49 : decode method_3_code 49 = .ok (.getstatic 62, 3) := by decide +kernel
theorem d10_52 : decode method_3_code 52 = .ok (.areturn, 1) := by decide +kernel
theorem own_pf_st5 : plainFor own_y10 = true := by first | exact plainFor_of_name (show plainName "com/example/purgatory/purgatory/model/QueueRetentionPolicyRetentionOfPinLaw" = true by first | (simp [plainName, overriddenIn]; done) | decide +kernel) | decide +kernel
theorem own_ef_st5 (m : MethodId) (y0 : Int32) : entryFrame m #[(.int y0)] 1 = mkF m 0 #[iv y0] [] := by first | (simp [entryFrame, mkF, argsToLocals, Value.category]; done) | rfl
def own_Qst5 (Z : State) (b5 : Addr) (h0 : Heap) (n0 : Nat) (v : Option Value) (h : Heap) (L : List Loc) : Prop := v = some (.ref b5) ∧ Fr n0 L ∧ h = h0
set_option maxRecDepth 65536 in
set_option maxHeartbeats 40000000 in
theorem own_rmst5 (l : Launch) (Z : State) (a0 : Array Value) (hw : ∀ d ∈ tables_1, d.before a0 Z = true) (ws : List Jvm.Cond) (b5 : Addr) (h0 : Heap) (n0 : Nat) (Z0 : n0 ≤ h0.size) (P0 : Sta Z h0 "com/example/purgatory/purgatory/model/QueueItemStatus" "RETRIED" "Lcom/example/purgatory/purgatory/model/QueueItemStatus;" (.ref b5)) :
    MetFree l own_y10 (head1 (Jvm.Cond.code own_y10 method_3_code 1 (some (.object "com/example/purgatory/purgatory/model/QueueItemStatus")) :: ws) ({ frames := 0, cells := 0, slots := 0, locals := 0 } : Room)) (fun az Uz => az = #[(.int 5)] ∧ Z.Warmed39 Uz.vm ∧ Uz.heap = h0) (fun _ _ _ _ _ => True) (fun _ U o U' => ∃ v L, o = .returned v ∧ own_Qst5 Z b5 h0 n0 v U'.heap L ∧ FrameEnd U o U' L ({ frames := 0, cells := 0, slots := 0, locals := 0 } : Room).cells ({ frames := 0, cells := 0, slots := 0, locals := 0 } : Room).slots) := by
  refine MetFree.of_bodySF own_pf_st5 hisR ?_
  intro p e s m args below meth c s₁ Bd hml0 hP hK
  obtain ⟨rfl, hZ, hh⟩ := hP
  have hx := Bd.exec
  have hby := Bd.bytes
  have hml : c.maxLocals = 1 := hml0
  have hown : s.vm.findClass "com/example/purgatory/purgatory/model/QueueRetentionPolicyRetentionOfPinLaw" = some m.cls := findClass_of_methodNamed Bd.named
  have hnm := (name_of_methodNamed Bd.named Bd.method).1
  have hlk : meth.locks = false := BodyLoose.notSynchronized Bd
  have hret := Bd.returns
  have X0 : Stand p l e ({ frames := 0, cells := 0, slots := 0, locals := 0 } : Room) s m #[(.int 5)] below meth c s₁ [] 0 0 := Stand.of_body Bd
  have e0 : s₁.heap = h0 := by rw [← hh, Bd.state]; rfl
  have N0 := Fr.nil n0
  show own_E p e below (own_K s (own_Qst5 Z b5 h0 n0) ({ frames := 0, cells := 0, slots := 0, locals := 0 } : Room).cells ({ frames := 0, cells := 0, slots := 0, locals := 0 } : Room).slots) s₁ (entryFrame m #[(.int 5)] 1)
  refine own_S (mkF m 0 #[.val (.int 5)] []) (fun _ k => castTop (own_ef_st5 m ((5 : Int32))) k) ?_
  refine own_S (mkF m 1 #[.val (.int 5)] [(.int 5)]) (fun _ k => XS.iloadN X0.here hx rfl (hb hby d10_0) rfl k) ?_
  have hc1 : ¬ ((5 : Int32) = (0 : Int32)) := by decide
  refine own_S (mkF m 8 #[.val (.int 5)] []) (fun _ k => XS.ifYes X0.here hx rfl (pc0 := 1) (pc' := 8) rfl (hb hby d10_1) rfl ((if0 _ _).trans (feq hc1).2) (by decide) (by decide) k) ?_
  refine own_S (mkF m 9 #[.val (.int 5)] [(.int 5)]) (fun _ k => XS.iloadN X0.here hx rfl (hb hby d10_8) rfl k) ?_
  refine own_S (mkF m 10 #[.val (.int 5)] [(.int 1), (.int 5)]) (fun _ k => XS.iconst X0.here hx rfl (hb hby d10_9) k) ?_
  have hc2 : ¬ ((5 : Int32) = (1 : Int32)) := by decide
  refine own_S (mkF m 17 #[.val (.int 5)] []) (fun _ k => XS.icmpYes X0.here hx rfl (pc0 := 10) (pc' := 17) rfl (hb hby d10_10) rfl (feq hc2).2 (by decide) (by decide) k) ?_
  refine own_S (mkF m 18 #[.val (.int 5)] [(.int 5)]) (fun _ k => XS.iloadN X0.here hx rfl (hb hby d10_17) rfl k) ?_
  refine own_S (mkF m 19 #[.val (.int 5)] [(.int 2), (.int 5)]) (fun _ k => XS.iconst X0.here hx rfl (hb hby d10_18) k) ?_
  have hc3 : ¬ ((5 : Int32) = (2 : Int32)) := by decide
  refine own_S (mkF m 26 #[.val (.int 5)] []) (fun _ k => XS.icmpYes X0.here hx rfl (pc0 := 19) (pc' := 26) rfl (hb hby d10_19) rfl (feq hc3).2 (by decide) (by decide) k) ?_
  refine own_S (mkF m 27 #[.val (.int 5)] [(.int 5)]) (fun _ k => XS.iloadN X0.here hx rfl (hb hby d10_26) rfl k) ?_
  refine own_S (mkF m 28 #[.val (.int 5)] [(.int 3), (.int 5)]) (fun _ k => XS.iconst X0.here hx rfl (hb hby d10_27) k) ?_
  have hc4 : ¬ ((5 : Int32) = (3 : Int32)) := by decide
  refine own_S (mkF m 35 #[.val (.int 5)] []) (fun _ k => XS.icmpYes X0.here hx rfl (pc0 := 28) (pc' := 35) rfl (hb hby d10_28) rfl (feq hc4).2 (by decide) (by decide) k) ?_
  refine own_S (mkF m 36 #[.val (.int 5)] [(.int 5)]) (fun _ k => XS.iloadN X0.here hx rfl (hb hby d10_35) rfl k) ?_
  refine own_S (mkF m 37 #[.val (.int 5)] [(.int 4), (.int 5)]) (fun _ k => XS.iconst X0.here hx rfl (hb hby d10_36) k) ?_
  have hc5 : ¬ ((5 : Int32) = (4 : Int32)) := by decide
  refine own_S (mkF m 44 #[.val (.int 5)] []) (fun _ k => XS.icmpYes X0.here hx rfl (pc0 := 37) (pc' := 44) rfl (hb hby d10_37) rfl (feq hc5).2 (by decide) (by decide) k) ?_
  refine own_S (mkF m 45 #[.val (.int 5)] [(.int 5)]) (fun _ k => XS.iloadN X0.here hx rfl (hb hby d10_44) rfl k) ?_
  refine own_S (mkF m 46 #[.val (.int 5)] [(.int 5), (.int 5)]) (fun _ k => XS.iconst X0.here hx rfl (hb hby d10_45) k) ?_
  have hc6 : (5 : Int32) = (5 : Int32) := by decide
  refine own_S (mkF m 49 #[.val (.int 5)] []) (fun _ k => XS.icmpNo X0.here hx rfl (hb hby d10_46) rfl (teq hc6).2 k) ?_
  obtain ⟨T7, X7, e7, st7⟩ := getS (host := "") X0 hx hZ hown (own_g hw (i := 127) rfl) Via.refl e0 P0 (g := (mkF m 49 #[.val (.int 5)] [])) rfl (hb hby d10_49)
  refine own_S (mkF m 52 #[.val (.int 5)] [(.ref b5)]) st7 ?_
  exact own_ret X7 hx hlk (t := (.object "com/example/purgatory/purgatory/model/QueueItemStatus")) hret rfl (Or.inr (Or.inr (Or.inr (Or.inr ⟨rfl, rfl, rfl⟩)))) (hb hby d10_52) (by rw [e7]; exact ⟨rfl, N0, rfl⟩) (by decide) (by decide)
theorem d10_53 : decode method_3_code 53 = .ok (.getstatic 65, 3) := by decide +kernel
theorem d10_56 : decode method_3_code 56 = .ok (.areturn, 1) := by decide +kernel
theorem own_pf_st6 : plainFor own_y10 = true := by first | exact plainFor_of_name (show plainName "com/example/purgatory/purgatory/model/QueueRetentionPolicyRetentionOfPinLaw" = true by first | (simp [plainName, overriddenIn]; done) | decide +kernel) | decide +kernel
theorem own_ef_st6 (m : MethodId) (y0 : Int32) : entryFrame m #[(.int y0)] 1 = mkF m 0 #[iv y0] [] := by first | (simp [entryFrame, mkF, argsToLocals, Value.category]; done) | rfl
def own_Qst6 (Z : State) (b6 : Addr) (h0 : Heap) (n0 : Nat) (v : Option Value) (h : Heap) (L : List Loc) : Prop := v = some (.ref b6) ∧ Fr n0 L ∧ h = h0
set_option maxRecDepth 65536 in
set_option maxHeartbeats 40000000 in
theorem own_rmst6 (l : Launch) (Z : State) (a0 : Array Value) (hw : ∀ d ∈ tables_1, d.before a0 Z = true) (ws : List Jvm.Cond) (b6 : Addr) (h0 : Heap) (n0 : Nat) (Z0 : n0 ≤ h0.size) (P0 : Sta Z h0 "com/example/purgatory/purgatory/model/QueueItemStatus" "DELETED" "Lcom/example/purgatory/purgatory/model/QueueItemStatus;" (.ref b6)) :
    MetFree l own_y10 (head1 (Jvm.Cond.code own_y10 method_3_code 1 (some (.object "com/example/purgatory/purgatory/model/QueueItemStatus")) :: ws) ({ frames := 0, cells := 0, slots := 0, locals := 0 } : Room)) (fun az Uz => az = #[(.int 6)] ∧ Z.Warmed39 Uz.vm ∧ Uz.heap = h0) (fun _ _ _ _ _ => True) (fun _ U o U' => ∃ v L, o = .returned v ∧ own_Qst6 Z b6 h0 n0 v U'.heap L ∧ FrameEnd U o U' L ({ frames := 0, cells := 0, slots := 0, locals := 0 } : Room).cells ({ frames := 0, cells := 0, slots := 0, locals := 0 } : Room).slots) := by
  refine MetFree.of_bodySF own_pf_st6 hisR ?_
  intro p e s m args below meth c s₁ Bd hml0 hP hK
  obtain ⟨rfl, hZ, hh⟩ := hP
  have hx := Bd.exec
  have hby := Bd.bytes
  have hml : c.maxLocals = 1 := hml0
  have hown : s.vm.findClass "com/example/purgatory/purgatory/model/QueueRetentionPolicyRetentionOfPinLaw" = some m.cls := findClass_of_methodNamed Bd.named
  have hnm := (name_of_methodNamed Bd.named Bd.method).1
  have hlk : meth.locks = false := BodyLoose.notSynchronized Bd
  have hret := Bd.returns
  have X0 : Stand p l e ({ frames := 0, cells := 0, slots := 0, locals := 0 } : Room) s m #[(.int 6)] below meth c s₁ [] 0 0 := Stand.of_body Bd
  have e0 : s₁.heap = h0 := by rw [← hh, Bd.state]; rfl
  have N0 := Fr.nil n0
  show own_E p e below (own_K s (own_Qst6 Z b6 h0 n0) ({ frames := 0, cells := 0, slots := 0, locals := 0 } : Room).cells ({ frames := 0, cells := 0, slots := 0, locals := 0 } : Room).slots) s₁ (entryFrame m #[(.int 6)] 1)
  refine own_S (mkF m 0 #[.val (.int 6)] []) (fun _ k => castTop (own_ef_st6 m ((6 : Int32))) k) ?_
  refine own_S (mkF m 1 #[.val (.int 6)] [(.int 6)]) (fun _ k => XS.iloadN X0.here hx rfl (hb hby d10_0) rfl k) ?_
  have hc1 : ¬ ((6 : Int32) = (0 : Int32)) := by decide
  refine own_S (mkF m 8 #[.val (.int 6)] []) (fun _ k => XS.ifYes X0.here hx rfl (pc0 := 1) (pc' := 8) rfl (hb hby d10_1) rfl ((if0 _ _).trans (feq hc1).2) (by decide) (by decide) k) ?_
  refine own_S (mkF m 9 #[.val (.int 6)] [(.int 6)]) (fun _ k => XS.iloadN X0.here hx rfl (hb hby d10_8) rfl k) ?_
  refine own_S (mkF m 10 #[.val (.int 6)] [(.int 1), (.int 6)]) (fun _ k => XS.iconst X0.here hx rfl (hb hby d10_9) k) ?_
  have hc2 : ¬ ((6 : Int32) = (1 : Int32)) := by decide
  refine own_S (mkF m 17 #[.val (.int 6)] []) (fun _ k => XS.icmpYes X0.here hx rfl (pc0 := 10) (pc' := 17) rfl (hb hby d10_10) rfl (feq hc2).2 (by decide) (by decide) k) ?_
  refine own_S (mkF m 18 #[.val (.int 6)] [(.int 6)]) (fun _ k => XS.iloadN X0.here hx rfl (hb hby d10_17) rfl k) ?_
  refine own_S (mkF m 19 #[.val (.int 6)] [(.int 2), (.int 6)]) (fun _ k => XS.iconst X0.here hx rfl (hb hby d10_18) k) ?_
  have hc3 : ¬ ((6 : Int32) = (2 : Int32)) := by decide
  refine own_S (mkF m 26 #[.val (.int 6)] []) (fun _ k => XS.icmpYes X0.here hx rfl (pc0 := 19) (pc' := 26) rfl (hb hby d10_19) rfl (feq hc3).2 (by decide) (by decide) k) ?_
  refine own_S (mkF m 27 #[.val (.int 6)] [(.int 6)]) (fun _ k => XS.iloadN X0.here hx rfl (hb hby d10_26) rfl k) ?_
  refine own_S (mkF m 28 #[.val (.int 6)] [(.int 3), (.int 6)]) (fun _ k => XS.iconst X0.here hx rfl (hb hby d10_27) k) ?_
  have hc4 : ¬ ((6 : Int32) = (3 : Int32)) := by decide
  refine own_S (mkF m 35 #[.val (.int 6)] []) (fun _ k => XS.icmpYes X0.here hx rfl (pc0 := 28) (pc' := 35) rfl (hb hby d10_28) rfl (feq hc4).2 (by decide) (by decide) k) ?_
  refine own_S (mkF m 36 #[.val (.int 6)] [(.int 6)]) (fun _ k => XS.iloadN X0.here hx rfl (hb hby d10_35) rfl k) ?_
  refine own_S (mkF m 37 #[.val (.int 6)] [(.int 4), (.int 6)]) (fun _ k => XS.iconst X0.here hx rfl (hb hby d10_36) k) ?_
  have hc5 : ¬ ((6 : Int32) = (4 : Int32)) := by decide
  refine own_S (mkF m 44 #[.val (.int 6)] []) (fun _ k => XS.icmpYes X0.here hx rfl (pc0 := 37) (pc' := 44) rfl (hb hby d10_37) rfl (feq hc5).2 (by decide) (by decide) k) ?_
  refine own_S (mkF m 45 #[.val (.int 6)] [(.int 6)]) (fun _ k => XS.iloadN X0.here hx rfl (hb hby d10_44) rfl k) ?_
  refine own_S (mkF m 46 #[.val (.int 6)] [(.int 5), (.int 6)]) (fun _ k => XS.iconst X0.here hx rfl (hb hby d10_45) k) ?_
  have hc6 : ¬ ((6 : Int32) = (5 : Int32)) := by decide
  refine own_S (mkF m 53 #[.val (.int 6)] []) (fun _ k => XS.icmpYes X0.here hx rfl (pc0 := 46) (pc' := 53) rfl (hb hby d10_46) rfl (feq hc6).2 (by decide) (by decide) k) ?_
  obtain ⟨T7, X7, e7, st7⟩ := getS (host := "") X0 hx hZ hown (own_g hw (i := 125) rfl) Via.refl e0 P0 (g := (mkF m 53 #[.val (.int 6)] [])) rfl (hb hby d10_53)
  refine own_S (mkF m 56 #[.val (.int 6)] [(.ref b6)]) st7 ?_
  exact own_ret X7 hx hlk (t := (.object "com/example/purgatory/purgatory/model/QueueItemStatus")) hret rfl (Or.inr (Or.inr (Or.inr (Or.inr ⟨rfl, rfl, rfl⟩)))) (hb hby d10_56) (by rw [e7]; exact ⟨rfl, N0, rfl⟩) (by decide) (by decide)
theorem d12_0 : decode jdk_32_method_1_code 0 = .ok (.getstatic 1, 3) := by decide +kernel
theorem d12_3 : decode jdk_32_method_1_code 3 = .ok (.astore_n 0, 1) := by decide +kernel
theorem d12_4 : decode jdk_32_method_1_code 4 = .ok (.aload_n 0, 1) := by decide +kernel
theorem d12_5 : decode jdk_32_method_1_code 5 = .ok (.areturn, 1) := by decide +kernel
theorem own_pf_oe : plainFor own_y11 = true := by first | exact plainFor_of_name (show plainName "java/util/Optional" = true by first | (simp [plainName, overriddenIn]; done) | decide +kernel) | decide +kernel
theorem own_ef_oe (m : MethodId)  : entryFrame m #[] 1 = mkF m 0 #[.unset] [] := by first | (simp [entryFrame, mkF, argsToLocals, Value.category]; done) | rfl
def own_Qoe (Z : State) (em : Addr) (h0 : Heap) (n0 : Nat) (v : Option Value) (h : Heap) (L : List Loc) : Prop := v = some (.ref em) ∧ Fr n0 L ∧ h = h0
set_option maxRecDepth 65536 in
set_option maxHeartbeats 40000000 in
theorem own_rmoe (l : Launch) (Z : State) (a0 : Array Value) (hw : ∀ d ∈ tables_1, d.before a0 Z = true) (ws : List Jvm.Cond) (em : Addr) (h0 : Heap) (n0 : Nat) (Z0 : n0 ≤ h0.size) (P0 : Sta Z h0 "java/util/Optional" "EMPTY" "Ljava/util/Optional;" (.ref em)) :
    MetFree l own_y11 (head1 (Jvm.Cond.code own_y11 jdk_32_method_1_code 1 (some (.object "java/util/Optional")) :: ws) ({ frames := 0, cells := 0, slots := 0, locals := 0 } : Room)) (fun az Uz => az = #[] ∧ Z.Warmed39 Uz.vm ∧ Uz.heap = h0) (fun _ _ _ _ _ => True) (fun _ U o U' => ∃ v L, o = .returned v ∧ own_Qoe Z em h0 n0 v U'.heap L ∧ FrameEnd U o U' L ({ frames := 0, cells := 0, slots := 0, locals := 0 } : Room).cells ({ frames := 0, cells := 0, slots := 0, locals := 0 } : Room).slots) := by
  refine MetFree.of_bodySF own_pf_oe hisR ?_
  intro p e s m args below meth c s₁ Bd hml0 hP hK
  obtain ⟨rfl, hZ, hh⟩ := hP
  have hx := Bd.exec
  have hby := Bd.bytes
  have hml : c.maxLocals = 1 := hml0
  have hown : s.vm.findClass "java/util/Optional" = some m.cls := findClass_of_methodNamed Bd.named
  have hnm := (name_of_methodNamed Bd.named Bd.method).1
  have hlk : meth.locks = false := BodyLoose.notSynchronized Bd
  have hret := Bd.returns
  have X0 : Stand p l e ({ frames := 0, cells := 0, slots := 0, locals := 0 } : Room) s m #[] below meth c s₁ [] 0 0 := Stand.of_body Bd
  have e0 : s₁.heap = h0 := by rw [← hh, Bd.state]; rfl
  have N0 := Fr.nil n0
  show own_E p e below (own_K s (own_Qoe Z em h0 n0) ({ frames := 0, cells := 0, slots := 0, locals := 0 } : Room).cells ({ frames := 0, cells := 0, slots := 0, locals := 0 } : Room).slots) s₁ (entryFrame m #[] 1)
  refine own_S (mkF m 0 #[.unset] []) (fun _ k => castTop (own_ef_oe m ) k) ?_
  obtain ⟨T1, X1, e1, st1⟩ := getS (host := "") X0 hx hZ hown (own_g hw (i := 85) rfl) Via.refl e0 P0 (g := (mkF m 0 #[.unset] [])) rfl (hb hby d12_0)
  refine own_S (mkF m 3 #[.unset] [(.ref em)]) st1 ?_
  refine own_S (mkF m 4 #[rv em] []) (fun _ k => XS.astoreN X1.here hx rfl (hb hby d12_3) rfl rfl (l' := #[rv em]) rfl k) ?_
  refine own_S (mkF m 5 #[rv em] [(.ref em)]) (fun _ k => XS.aloadN X1.here hx rfl (hb hby d12_4) rfl rfl k) ?_
  exact own_ret X1 hx hlk (t := (.object "java/util/Optional")) hret rfl (Or.inr (Or.inr (Or.inr (Or.inr ⟨rfl, rfl, rfl⟩)))) (hb hby d12_5) (by rw [e1]; exact ⟨rfl, N0, rfl⟩) (by decide) (by decide)
theorem d16_0 : decode jdk_32_method_2_code 0 = .ok (.aload_n 0, 1) := by decide +kernel
theorem d16_1 : decode jdk_32_method_2_code 1 = .ok (.invokespecial 7, 3) := by decide +kernel
theorem d16_4 : decode jdk_32_method_2_code 4 = .ok (.aload_n 0, 1) := by decide +kernel
theorem d16_5 : decode jdk_32_method_2_code 5 = .ok (.aload_n 1, 1) := by decide +kernel
theorem d16_6 : decode jdk_32_method_2_code 6 = .ok (.putfield 13, 3) := by decide +kernel
theorem d16_9 : decode jdk_32_method_2_code 9 = .ok (.return_, 1) := by decide +kernel
theorem own_pf_oi : plainFor own_y12 = true := by first | exact plainFor_of_name (show plainName "java/util/Optional" = true by first | (simp [plainName, overriddenIn]; done) | decide +kernel) | decide +kernel
theorem own_ef_oi (m : MethodId) (y0 : Addr) (y1 : Addr) : entryFrame m #[(.ref y0), (.ref y1)] 2 = mkF m 0 #[rv y0, rv y1] [] := by first | (simp [entryFrame, mkF, argsToLocals, Value.category]; done) | rfl
def own_Qoi (Z : State) (a : Addr) (b : Addr) (u1 : Value) (h0 : Heap) (n0 : Nat) (v : Option Value) (h : Heap) (L : List Loc) : Prop := v = none ∧ Fr n0 L ∧ Keep h0 h [a] ∧ Exa Z h a "java/util/Optional" ∧ Fld Z h a "java/util/Optional" "value" "Ljava/lang/Object;" (.ref b)
set_option maxRecDepth 65536 in
set_option maxHeartbeats 40000000 in
theorem own_rmoi (l : Launch) (Z : State) (a0 : Array Value) (hw : ∀ d ∈ tables_1, d.before a0 Z = true) (ws : List Jvm.Cond) (a : Addr) (b : Addr) (u1 : Value) (h0 : Heap) (n0 : Nat) (Z0 : n0 ≤ h0.size) (P0 : Exa Z h0 a "java/util/Optional") (P1 : Fld Z h0 a "java/util/Optional" "value" "Ljava/lang/Object;" u1) (G_a : n0 ≤ a) :
    MetFree l own_y12 (head1 (Jvm.Cond.code own_y12 jdk_32_method_2_code 2 none :: ws) ({ frames := 1, cells := 0, slots := 0, locals := 12 } : Room)) (fun az Uz => az = #[(.ref a), (.ref b)] ∧ Z.Warmed39 Uz.vm ∧ Uz.heap = h0) (fun _ _ _ _ _ => True) (fun _ U o U' => ∃ v L, o = .returned v ∧ own_Qoi Z a b u1 h0 n0 v U'.heap L ∧ FrameEnd U o U' L ({ frames := 1, cells := 0, slots := 0, locals := 12 } : Room).cells ({ frames := 1, cells := 0, slots := 0, locals := 12 } : Room).slots) := by
  refine MetFree.of_bodySF own_pf_oi hisR ?_
  intro p e s m args below meth c s₁ Bd hml0 hP hK
  obtain ⟨rfl, hZ, hh⟩ := hP
  have hx := Bd.exec
  have hby := Bd.bytes
  have hml : c.maxLocals = 2 := hml0
  have hown : s.vm.findClass "java/util/Optional" = some m.cls := findClass_of_methodNamed Bd.named
  have hnm := (name_of_methodNamed Bd.named Bd.method).1
  have hlk : meth.locks = false := BodyLoose.notSynchronized Bd
  have hret := Bd.returns
  have X0 : Stand p l e ({ frames := 1, cells := 0, slots := 0, locals := 12 } : Room) s m #[(.ref a), (.ref b)] below meth c s₁ [] 0 0 := Stand.of_body Bd
  have e0 : s₁.heap = h0 := by rw [← hh, Bd.state]; rfl
  have N0 := Fr.nil n0
  show own_E p e below (own_K s (own_Qoi Z a b u1 h0 n0) ({ frames := 1, cells := 0, slots := 0, locals := 12 } : Room).cells ({ frames := 1, cells := 0, slots := 0, locals := 12 } : Room).slots) s₁ (entryFrame m #[(.ref a), (.ref b)] 2)
  refine own_S (mkF m 0 #[rv a, rv b] []) (fun _ k => castTop (own_ef_oi m (a) (b)) k) ?_
  refine own_S (mkF m 1 #[rv a, rv b] [(.ref a)]) (fun _ k => XS.aloadN X0.here hx rfl (hb hby d16_0) rfl rfl k) ?_
  obtain ⟨T1, X1, e1, st1⟩ := initO X0 hx hZ hown (own_g hw (i := 106) rfl) (own_g hw (i := 23) rfl) (own_g hw (i := 24) rfl) e0 (g := (mkF m 1 #[rv a, rv b] [(.ref a)])) rfl (by rw [hml]; rfl) rfl (hb hby d16_1) (by decide) (W := 0) (by show 2 * 0 + _ ≤ _; exact Nat.le_of_eq rfl) (by decide)
  refine own_S (mkF m 4 #[rv a, rv b] []) st1 ?_
  refine own_S (mkF m 5 #[rv a, rv b] [(.ref a)]) (fun _ k => XS.aloadN X1.here hx rfl (hb hby d16_4) rfl rfl k) ?_
  refine own_S (mkF m 6 #[rv a, rv b] [(.ref b), (.ref a)]) (fun _ k => XS.aloadN X1.here hx rfl (hb hby d16_5) rfl rfl k) ?_
  obtain ⟨T2, h2, X2, e2, W2, st2⟩ := putF X1 hx hZ hown (host := "") (Or.inl (own_g hw (i := 107) rfl)) Via.refl e1 P1 P0 (Or.inr ⟨(own_g hw (i := 108) rfl), rfl, hnm⟩) (own_g hw (i := 98) rfl) (ty := (.object "java/lang/Object")) (by decide) rfl rfl (g := (mkF m 6 #[rv a, rv b] [(.ref b), (.ref a)])) rfl rfl (hb hby d16_6)
  refine own_S (mkF m 9 #[rv a, rv b] []) st2 ?_
  have F3 := P0.wr W2
  have F4 := P1.same W2
  have N2 := Fr.snoc X2 N0 G_a
  have Z2 : n0 ≤ h2.size := by rw [Wr.size W2]; exact Z0
  have K2 : Keep h0 h2 [a] := (Keep.refl _ _).wr W2 (Or.inl (List.mem_of_getElem? (i := 0) rfl))
  exact own_ret0 X2 hx hlk hret (hb hby d16_9) (by rw [e2]; exact ⟨rfl, N2, K2, F3, F4⟩) (by decide) (by decide)
theorem d14_0 : decode jdk_32_method_3_code 0 = .ok (.new 2, 3) := by decide +kernel
theorem d14_3 : decode jdk_32_method_3_code 3 = .ok (.dup, 1) := by decide +kernel
theorem d14_4 : decode jdk_32_method_3_code 4 = .ok (.aload_n 0, 1) := by decide +kernel
theorem d14_5 : decode jdk_32_method_3_code 5 = .ok (.invokestatic 17, 3) := by decide +kernel
theorem d14_8 : decode jdk_32_method_3_code 8 = .ok (.invokespecial 23, 3) := by decide +kernel
theorem d14_11 : decode jdk_32_method_3_code 11 = .ok (.areturn, 1) := by decide +kernel
theorem own_pd__Ljava_lang_Object__Ljava_lang_Object_ : parseMethodDescriptor "(Ljava/lang/Object;)Ljava/lang/Object;" = some ⟨[(.object "java/lang/Object")], (some (.object "java/lang/Object"))⟩ := by decide +kernel
theorem own_pd__Ljava_lang_Object__V : parseMethodDescriptor "(Ljava/lang/Object;)V" = some ⟨[(.object "java/lang/Object")], none⟩ := by decide +kernel
theorem own_pf_oo : plainFor own_y13 = true := by first | exact plainFor_of_name (show plainName "java/util/Optional" = true by first | (simp [plainName, overriddenIn]; done) | decide +kernel) | decide +kernel
theorem own_ef_oo (m : MethodId) (y0 : Addr) : entryFrame m #[(.ref y0)] 1 = mkF m 0 #[rv y0] [] := by first | (simp [entryFrame, mkF, argsToLocals, Value.category]; done) | rfl
def own_Qoo (Z : State) (b : Addr) (h0 : Heap) (n0 : Nat) (v : Option Value) (h : Heap) (L : List Loc) : Prop := ∃ (r : Addr), v = some (.ref r) ∧ Fr n0 L ∧ Keep h0 h [] ∧ Exa Z h r "java/util/Optional" ∧ Fld Z h r "java/util/Optional" "value" "Ljava/lang/Object;" (.ref b) ∧ h0.size ≤ r
set_option maxRecDepth 65536 in
set_option maxHeartbeats 40000000 in
theorem own_rmoo (l : Launch) (Z : State) (a0 : Array Value) (hw : ∀ d ∈ tables_1, d.before a0 Z = true) (ws : List Jvm.Cond) (b : Addr) (h0 : Heap) (n0 : Nat) (Z0 : n0 ≤ h0.size)  :
    MetFree l own_y13 (head1 (Jvm.Cond.code own_y13 jdk_32_method_3_code 1 (some (.object "java/util/Optional")) :: ws) ({ frames := 2, cells := 1, slots := 1, locals := 26 } : Room)) (fun az Uz => az = #[(.ref b)] ∧ Z.Warmed39 Uz.vm ∧ Uz.heap = h0) (fun _ _ _ _ _ => True) (fun _ U o U' => ∃ v L, o = .returned v ∧ own_Qoo Z b h0 n0 v U'.heap L ∧ FrameEnd U o U' L ({ frames := 2, cells := 1, slots := 1, locals := 26 } : Room).cells ({ frames := 2, cells := 1, slots := 1, locals := 26 } : Room).slots) := by
  refine MetFree.of_bodySF own_pf_oo hisR ?_
  intro p e s m args below meth c s₁ Bd hml0 hP hK
  obtain ⟨rfl, hZ, hh⟩ := hP
  have hx := Bd.exec
  have hby := Bd.bytes
  have hml : c.maxLocals = 1 := hml0
  have hown : s.vm.findClass "java/util/Optional" = some m.cls := findClass_of_methodNamed Bd.named
  have hnm := (name_of_methodNamed Bd.named Bd.method).1
  have hlk : meth.locks = false := BodyLoose.notSynchronized Bd
  have hret := Bd.returns
  have X0 : Stand p l e ({ frames := 2, cells := 1, slots := 1, locals := 26 } : Room) s m #[(.ref b)] below meth c s₁ [] 0 0 := Stand.of_body Bd
  have e0 : s₁.heap = h0 := by rw [← hh, Bd.state]; rfl
  have N0 := Fr.nil n0
  show own_E p e below (own_K s (own_Qoo Z b h0 n0) ({ frames := 2, cells := 1, slots := 1, locals := 26 } : Room).cells ({ frames := 2, cells := 1, slots := 1, locals := 26 } : Room).slots) s₁ (entryFrame m #[(.ref b)] 1)
  refine own_S (mkF m 0 #[rv b] []) (fun _ k => castTop (own_ef_oo m (b)) k) ?_
  obtain ⟨T1, h1, X1, e1, E1, A1, D1, -, st1⟩ := newO X0 hx hZ hown (own_g hw (i := 97) rfl) (own_g hw (i := 98) rfl) (own_g hw (i := 83) rfl) e0 (g := (mkF m 0 #[rv b] [])) rfl (hb hby d14_0) (by decide) (by decide)
  obtain ⟨r, g1⟩ : ∃ z, z = h0.size := ⟨_, rfl⟩
  rw [← g1] at A1 D1 st1
  have ge_r : n0 ≤ r := Nat.le_trans Z0 (Nat.le_of_eq g1.symm)
  have fr_r : h0.size ≤ r := Nat.le_trans (Keep.refl h0 []).1 (Nat.le_of_eq g1.symm)
  have K1 : Keep h0 h1 [] := (Keep.refl _ _).ext E1
  have Z1 : n0 ≤ h1.size := Nat.le_trans Z0 E1.1
  have F2 : Fld Z h1 r "java/util/Optional" "value" "Ljava/lang/Object;" .null := D1 (Or.inr (own_g hw (i := 108) rfl)) (ty := (.object "java/lang/Object")) (by decide)
  refine own_S (mkF m 3 #[rv b] [(.ref r)]) st1 ?_
  refine own_S (mkF m 4 #[rv b] [(.ref r), (.ref r)]) (fun _ k => XS.dup X1.here hx rfl (hb hby d14_3) rfl rfl k) ?_
  refine own_S (mkF m 5 #[rv b] [(.ref b), (.ref r), (.ref r)]) (fun _ k => XS.aloadN X1.here hx rfl (hb hby d14_4) rfl rfl k) ?_
  obtain ⟨_, _, ⟨T3, L3, k3, n3⟩, -, X3, ⟨Lc3, hQ3, l3, y3, z3⟩, st3⟩ := Jvm.LawKit.callS X1 hx (y := own_y6) hown (mvT hZ (own_g hw (i := 99) rfl)) (mvT hZ (own_g hw (i := 100) rfl)) (mvT hZ (own_g hw (i := 35) rfl)) (mvT hZ (own_g hw (i := 101) rfl)) (by decide) (backOf (W := 2) (own_rmrn1 l Z a0 hw [] (b) h1 n0 Z1 ) hZ (own_g hw (i := 101) rfl) (own_g hw (i := 35) rfl) (by decide) (by decide)) (g := (mkF m 5 #[rv b] [(.ref b), (.ref r), (.ref r)])) rfl (by rw [hml]; rfl) (argsL := [(.ref b)]) (rest := [(.ref r), (.ref r)]) (lenOf own_pd__Ljava_lang_Object__Ljava_lang_Object_ rfl) rfl (by show 2 * 0 + _ ≤ _; exact Nat.le_of_eq rfl) (hb hby d14_5) (fun _ _ => ⟨rfl, e1, (by decide : 1 + 0 ≤ _), (by decide : 1 + 0 ≤ _)⟩)
  dsimp only [Pt.U, Pt.locs, Pt.cells, Pt.slots] at X3 l3 y3 z3 st3 hQ3
  subst l3 y3 z3
  obtain ⟨rfl, N3q, e3⟩ := hQ3
  have N3 := Fr.app N0 N3q
  refine own_S (mkF m 8 #[rv b] [(.ref b), (.ref r), (.ref r)]) (fun _ k => st3 _ k) ?_
  obtain ⟨_, _, ⟨T4, L4, k4, n4⟩, -, X4, ⟨Lc4, hQ4, l4, y4, z4⟩, st4⟩ := X3.specialBack hx (y := own_y12) rfl hown (mvT hZ (own_g hw (i := 102) rfl)) (mvT hZ (own_g hw (i := 103) rfl)) (mvT hZ (own_g hw (i := 105) rfl)) (by decide) (backOf (W := 1) (own_rmoi l Z a0 hw [] (r) (b) (.null) h1 n0 Z1 A1 F2 ge_r) hZ (own_g hw (i := 105) rfl) (own_g hw (i := 83) rfl) (by decide) (by decide)) (g := (mkF m 8 #[rv b] [(.ref b), (.ref r), (.ref r)])) rfl (by rw [hml]; rfl) (Steps.refl _) (a := r) (argsL := [(.ref b)]) (rest := [(.ref r)]) (lenOf own_pd__Ljava_lang_Object__V rfl) rfl (by show 2 * 0 + _ ≤ _; exact Nat.le_of_eq rfl) (hb hby d14_8) (fun _ _ => ⟨rfl, e3, (by decide : 1 + 0 ≤ _), (by decide : 1 + 0 ≤ _)⟩)
  dsimp only [Pt.U, Pt.locs, Pt.cells, Pt.slots] at X4 l4 y4 z4 st4 hQ4
  subst l4 y4 z4
  obtain ⟨rfl, N4q, K4q, F5, F6⟩ := hQ4
  have N4 := Fr.app N3 N4q
  refine own_S (mkF m 11 #[rv b] [(.ref r)]) (fun _ k => st4.trans k) ?_
  have K4 : Keep h0 T4.heap [] := K1.trans K4q (allS (Or.inr fr_r) all0)
  have Z4 : n0 ≤ T4.heap.size := Nat.le_trans Z1 K4q.1
  exact own_ret X4 hx hlk (t := (.object "java/util/Optional")) hret rfl (Or.inr (Or.inr (Or.inr (Or.inr ⟨rfl, rfl, rfl⟩)))) (hb hby d14_11) ⟨r, rfl, N4, K4, F5, F6, fr_r⟩ (by decide) (by decide)
theorem d11_0 : decode prog_14_method_5_code 0 = .ok (.invokestatic 41, 3) := by decide +kernel
theorem d11_3 : decode prog_14_method_5_code 3 = .ok (.astore_n 2, 1) := by decide +kernel
theorem d11_4 : decode prog_14_method_5_code 4 = .ok (.aload_n 1, 1) := by decide +kernel
theorem d11_5 : decode prog_14_method_5_code 5 = .ok (.invokevirtual 47, 3) := by decide +kernel
theorem d11_8 : decode prog_14_method_5_code 8 = .ok (.ifCond .eq 14, 3) := by decide +kernel
theorem d11_11 : decode prog_14_method_5_code 11 = .ok (.aload_n 0, 1) := by decide +kernel
theorem d11_12 : decode prog_14_method_5_code 12 = .ok (.getfield 17, 3) := by decide +kernel
theorem d11_15 : decode prog_14_method_5_code 15 = .ok (.invokestatic 53, 3) := by decide +kernel
theorem d11_18 : decode prog_14_method_5_code 18 = .ok (.astore_n 2, 1) := by decide +kernel
theorem d11_19 : decode prog_14_method_5_code 19 = .ok (.goto 18, 3) := by decide +kernel
theorem d11_37 : decode prog_14_method_5_code 37 = .ok (.aload_n 2, 1) := by decide +kernel
theorem d11_38 : decode prog_14_method_5_code 38 = .ok (.areturn, 1) := by decide +kernel
theorem own_pd___Ljava_util_Optional_ : parseMethodDescriptor "()Ljava/util/Optional;" = some ⟨[], (some (.object "java/util/Optional"))⟩ := by decide +kernel
theorem own_pd__Ljava_lang_Object__Ljava_util_Optional_ : parseMethodDescriptor "(Ljava/lang/Object;)Ljava/util/Optional;" = some ⟨[(.object "java/lang/Object")], (some (.object "java/util/Optional"))⟩ := by decide +kernel
theorem own_pf_r1 : plainFor own_y14 = true := by first | exact plainFor_of_name (show plainName "com/example/purgatory/purgatory/model/QueueRetentionPolicy" = true by first | (simp [plainName, overriddenIn]; done) | decide +kernel) | decide +kernel
theorem own_ef_r1 (m : MethodId) (y0 : Addr) (y1 : Addr) : entryFrame m #[(.ref y0), (.ref y1)] 3 = mkF m 0 #[rv y0, rv y1, .unset] [] := by first | (simp [entryFrame, mkF, argsToLocals, Value.category]; done) | rfl
def own_Qr1 (Z : State) (a : Addr) (b : Addr) (v1 : Addr) (em : Addr) (h0 : Heap) (n0 : Nat) (v : Option Value) (h : Heap) (L : List Loc) : Prop := ∃ (r : Addr), v = some (.ref r) ∧ Fr n0 L ∧ Keep h0 h [] ∧ Exa Z h r "java/util/Optional" ∧ Fld Z h r "java/util/Optional" "value" "Ljava/lang/Object;" (.ref v1) ∧ h0.size ≤ r
set_option maxRecDepth 65536 in
set_option maxHeartbeats 40000000 in
theorem own_rmr1 (l : Launch) (Z : State) (a0 : Array Value) (hw : ∀ d ∈ tables_1, d.before a0 Z = true) (ws : List Jvm.Cond) (a : Addr) (b : Addr) (v1 : Addr) (em : Addr) (h0 : Heap) (n0 : Nat) (Z0 : n0 ≤ h0.size) (P0 : Exa Z h0 b "com/example/purgatory/purgatory/model/QueueItemStatus") (P1 : Fld Z h0 b "com/example/purgatory/purgatory/model/QueueItemStatus" "isFinal" "Z" (.int (1 : Int32))) (P2 : Fld Z h0 a "com/example/purgatory/purgatory/model/QueueRetentionPolicy" "finished" "Lcom/example/purgatory/purgatory/model/Retention;" (.ref v1)) (P3 : Sta Z h0 "java/util/Optional" "EMPTY" "Ljava/util/Optional;" (.ref em)) :
    MetFree l own_y14 (head1 (Jvm.Cond.code own_y14 prog_14_method_5_code 3 (some (.object "java/util/Optional")) :: ws) ({ frames := 3, cells := 1, slots := 1, locals := 38 } : Room)) (fun az Uz => az = #[(.ref a), (.ref b)] ∧ Z.Warmed39 Uz.vm ∧ Uz.heap = h0) (fun _ _ _ _ _ => True) (fun _ U o U' => ∃ v L, o = .returned v ∧ own_Qr1 Z a b v1 em h0 n0 v U'.heap L ∧ FrameEnd U o U' L ({ frames := 3, cells := 1, slots := 1, locals := 38 } : Room).cells ({ frames := 3, cells := 1, slots := 1, locals := 38 } : Room).slots) := by
  refine MetFree.of_bodySF own_pf_r1 hisR ?_
  intro p e s m args below meth c s₁ Bd hml0 hP hK
  obtain ⟨rfl, hZ, hh⟩ := hP
  have hx := Bd.exec
  have hby := Bd.bytes
  have hml : c.maxLocals = 3 := hml0
  have hown : s.vm.findClass "com/example/purgatory/purgatory/model/QueueRetentionPolicy" = some m.cls := findClass_of_methodNamed Bd.named
  have hnm := (name_of_methodNamed Bd.named Bd.method).1
  have hlk : meth.locks = false := BodyLoose.notSynchronized Bd
  have hret := Bd.returns
  have X0 : Stand p l e ({ frames := 3, cells := 1, slots := 1, locals := 38 } : Room) s m #[(.ref a), (.ref b)] below meth c s₁ [] 0 0 := Stand.of_body Bd
  have e0 : s₁.heap = h0 := by rw [← hh, Bd.state]; rfl
  have N0 := Fr.nil n0
  show own_E p e below (own_K s (own_Qr1 Z a b v1 em h0 n0) ({ frames := 3, cells := 1, slots := 1, locals := 38 } : Room).cells ({ frames := 3, cells := 1, slots := 1, locals := 38 } : Room).slots) s₁ (entryFrame m #[(.ref a), (.ref b)] 3)
  refine own_S (mkF m 0 #[rv a, rv b, .unset] []) (fun _ k => castTop (own_ef_r1 m (a) (b)) k) ?_
  obtain ⟨_, _, ⟨T1, L1, k1, n1⟩, -, X1, ⟨Lc1, hQ1, l1, y1, z1⟩, st1⟩ := Jvm.LawKit.callS X0 hx (y := own_y11) hown (mvT hZ (own_g hw (i := 81) rfl)) (mvT hZ (own_g hw (i := 82) rfl)) (mvT hZ (own_g hw (i := 83) rfl)) (mvT hZ (own_g hw (i := 84) rfl)) (by decide) (backOf (W := 0) (own_rmoe l Z a0 hw [] (em) h0 n0 Z0 P3) hZ (own_g hw (i := 84) rfl) (own_g hw (i := 83) rfl) (by decide) (by decide)) (g := (mkF m 0 #[rv a, rv b, .unset] [])) rfl (by rw [hml]; rfl) (argsL := []) (rest := []) (lenOf own_pd___Ljava_util_Optional_ rfl) rfl (by show 2 * 0 + _ ≤ _; exact Nat.le_of_eq rfl) (hb hby d11_0) (fun _ _ => ⟨rfl, e0, (by decide : 0 + 0 ≤ _), (by decide : 0 + 0 ≤ _)⟩)
  dsimp only [Pt.U, Pt.locs, Pt.cells, Pt.slots] at X1 l1 y1 z1 st1 hQ1
  subst l1 y1 z1
  obtain ⟨rfl, N1q, e1⟩ := hQ1
  have N1 := Fr.app N0 N1q
  refine own_S (mkF m 3 #[rv a, rv b, .unset] [(.ref em)]) (fun _ k => st1 _ k) ?_
  refine own_S (mkF m 4 #[rv a, rv b, rv em] []) (fun _ k => XS.astoreN X1.here hx rfl (hb hby d11_3) rfl rfl (l' := #[rv a, rv b, rv em]) rfl k) ?_
  refine own_S (mkF m 5 #[rv a, rv b, rv em] [(.ref b)]) (fun _ k => XS.aloadN X1.here hx rfl (hb hby d11_4) rfl rfl k) ?_
  obtain ⟨cq2, kq2, q2a, q2b, q2c⟩ := isOf hZ e1 P0
  obtain ⟨_, _, ⟨T2, L2, k2, n2⟩, -, X2, ⟨Lc2, hQ2, l2, y2, z2⟩, st2⟩ := X1.virtualBack hx (y := own_y4) (z := own_y4) hown (mvT hZ (own_g hw (i := 86) rfl)) (mvT hZ (own_g hw (i := 87) rfl)) (notFace_of_selects (args := #[]) (mvT hZ (own_g hw (i := 89) rfl))) (mvT hZ (own_g hw (i := 89) rfl)) (mvT hZ (own_g hw (i := 88) rfl)) (by decide) (backOf (W := 0) (own_rmif1 l Z a0 hw [] (b) h0 n0 Z0 P1) hZ (own_g hw (i := 90) rfl) (own_g hw (i := 74) rfl) (by decide) (by decide)) q2a q2c (g := (mkF m 5 #[rv a, rv b, rv em] [(.ref b)])) rfl (by rw [hml]; rfl) (Steps.refl _) (argsL := []) (rest := []) (lenOf own_pd___Z rfl) rfl (by show 2 * 0 + _ ≤ _; exact Nat.le_of_eq rfl) (hb hby d11_5) (fun _ _ => ⟨rfl, e1, (by decide : 0 + 0 ≤ _), (by decide : 0 + 0 ≤ _)⟩)
  dsimp only [Pt.U, Pt.locs, Pt.cells, Pt.slots] at X2 l2 y2 z2 st2 hQ2
  subst l2 y2 z2
  obtain ⟨rfl, N2q, e2⟩ := hQ2
  have N2 := Fr.app N1 N2q
  refine own_S (mkF m 8 #[rv a, rv b, rv em] [(.int 1)]) (fun _ k => st2.trans k) ?_
  have hc3 : ¬ ((1 : Int32) = (0 : Int32)) := by decide
  refine own_S (mkF m 11 #[rv a, rv b, rv em] []) (fun _ k => XS.ifNo X2.here hx rfl (hb hby d11_8) rfl ((if0 _ _).trans (feq hc3).1) k) ?_
  refine own_S (mkF m 12 #[rv a, rv b, rv em] [(.ref a)]) (fun _ k => XS.aloadN X2.here hx rfl (hb hby d11_11) rfl rfl k) ?_
  obtain ⟨T4, X4, e4, st4⟩ := getF X2 hx hZ hown (host := "") (Or.inl (own_g hw (i := 8) rfl)) Via.refl e2 P2 (g := (mkF m 12 #[rv a, rv b, rv em] [(.ref a)])) rfl rfl (hb hby d11_12)
  refine own_S (mkF m 15 #[rv a, rv b, rv em] [(.ref v1)]) st4 ?_
  obtain ⟨_, _, ⟨T5, L5, k5, n5⟩, -, X5, ⟨Lc5, hQ5, l5, y5, z5⟩, st5⟩ := Jvm.LawKit.callS X4 hx (y := own_y13) hown (mvT hZ (own_g hw (i := 94) rfl)) (mvT hZ (own_g hw (i := 95) rfl)) (mvT hZ (own_g hw (i := 83) rfl)) (mvT hZ (own_g hw (i := 96) rfl)) (by decide) (backOf (W := 0) (own_rmoo l Z a0 hw [] (v1) h0 n0 Z0 ) hZ (own_g hw (i := 96) rfl) (own_g hw (i := 83) rfl) (by decide) (by decide)) (g := (mkF m 15 #[rv a, rv b, rv em] [(.ref v1)])) rfl (by rw [hml]; rfl) (argsL := [(.ref v1)]) (rest := []) (lenOf own_pd__Ljava_lang_Object__Ljava_util_Optional_ rfl) rfl (by show 2 * 0 + _ ≤ _; exact Nat.le_of_eq rfl) (hb hby d11_15) (fun _ _ => ⟨rfl, e4, (by decide : 0 + 1 ≤ _), (by decide : 0 + 1 ≤ _)⟩)
  dsimp only [Pt.U, Pt.locs, Pt.cells, Pt.slots] at X5 l5 y5 z5 st5 hQ5
  subst l5 y5 z5
  obtain ⟨r, rfl, N5q, K5q, F6, F7, pp8⟩ := hQ5
  have N5 := Fr.app N2 N5q
  refine own_S (mkF m 18 #[rv a, rv b, rv em] [(.ref r)]) (fun _ k => st5 _ k) ?_
  have K5 : Keep h0 T5.heap [] := (Keep.refl h0 []).trans K5q all0
  have n9 : b ≠ r := Nat.ne_of_lt (Nat.lt_of_lt_of_le P0.lt pp8)
  have n10 : a ≠ r := Nat.ne_of_lt (Nat.lt_of_lt_of_le P2.lt pp8)
  have ge_r : n0 ≤ r := Nat.le_trans Z0 pp8
  have fr_r : h0.size ≤ r := Nat.le_trans (Keep.refl h0 []).1 pp8
  have F11 := P0.keep K5q
  have F12 := P1.keep K5q nin0
  have F13 := P2.keep K5q nin0
  have F14 := P3.ext ⟨K5q.1, fun a c q => K5q.2.1 a c q nin0⟩
  have Z5 : n0 ≤ T5.heap.size := Nat.le_trans Z0 K5q.1
  refine own_S (mkF m 19 #[rv a, rv b, rv r] []) (fun _ k => XS.astoreN X5.here hx rfl (hb hby d11_18) rfl rfl (l' := #[rv a, rv b, rv r]) rfl k) ?_
  refine own_S (mkF m 37 #[rv a, rv b, rv r] []) (fun _ k => XS.goto X5.here hx rfl (pc0 := 19) (pc' := 37) rfl (hb hby d11_19) (by decide) (by decide) k) ?_
  refine own_S (mkF m 38 #[rv a, rv b, rv r] [(.ref r)]) (fun _ k => XS.aloadN X5.here hx rfl (hb hby d11_37) rfl rfl k) ?_
  exact own_ret X5 hx hlk (t := (.object "java/util/Optional")) hret rfl (Or.inr (Or.inr (Or.inr (Or.inr ⟨rfl, rfl, rfl⟩)))) (hb hby d11_38) ⟨r, rfl, N5, K5, F6, F7, fr_r⟩ (by decide) (by decide)
theorem d11_22 : decode prog_14_method_5_code 22 = .ok (.aload_n 1, 1) := by decide +kernel
theorem d11_23 : decode prog_14_method_5_code 23 = .ok (.getstatic 57, 3) := by decide +kernel
theorem d11_26 : decode prog_14_method_5_code 26 = .ok (.if_acmp .ne 11, 3) := by decide +kernel
theorem d11_29 : decode prog_14_method_5_code 29 = .ok (.aload_n 0, 1) := by decide +kernel
theorem d11_30 : decode prog_14_method_5_code 30 = .ok (.getfield 24, 3) := by decide +kernel
theorem d11_33 : decode prog_14_method_5_code 33 = .ok (.invokestatic 53, 3) := by decide +kernel
theorem d11_36 : decode prog_14_method_5_code 36 = .ok (.astore_n 2, 1) := by decide +kernel
theorem own_pf_r2 : plainFor own_y14 = true := by first | exact plainFor_of_name (show plainName "com/example/purgatory/purgatory/model/QueueRetentionPolicy" = true by first | (simp [plainName, overriddenIn]; done) | decide +kernel) | decide +kernel
theorem own_ef_r2 (m : MethodId) (y0 : Addr) (y1 : Addr) : entryFrame m #[(.ref y0), (.ref y1)] 3 = mkF m 0 #[rv y0, rv y1, .unset] [] := by first | (simp [entryFrame, mkF, argsToLocals, Value.category]; done) | rfl
def own_Qr2 (Z : State) (a : Addr) (b : Addr) (v1 : Addr) (em : Addr) (h0 : Heap) (n0 : Nat) (v : Option Value) (h : Heap) (L : List Loc) : Prop := ∃ (r : Addr), v = some (.ref r) ∧ Fr n0 L ∧ Keep h0 h [] ∧ Exa Z h r "java/util/Optional" ∧ Fld Z h r "java/util/Optional" "value" "Ljava/lang/Object;" (.ref v1) ∧ h0.size ≤ r
set_option maxRecDepth 65536 in
set_option maxHeartbeats 40000000 in
theorem own_rmr2 (l : Launch) (Z : State) (a0 : Array Value) (hw : ∀ d ∈ tables_1, d.before a0 Z = true) (ws : List Jvm.Cond) (a : Addr) (b : Addr) (v1 : Addr) (em : Addr) (h0 : Heap) (n0 : Nat) (Z0 : n0 ≤ h0.size) (P0 : Exa Z h0 b "com/example/purgatory/purgatory/model/QueueItemStatus") (P1 : Fld Z h0 b "com/example/purgatory/purgatory/model/QueueItemStatus" "isFinal" "Z" (.int (0 : Int32))) (P2 : Fld Z h0 a "com/example/purgatory/purgatory/model/QueueRetentionPolicy" "unprocessed" "Lcom/example/purgatory/purgatory/model/Retention;" (.ref v1)) (P3 : Sta Z h0 "java/util/Optional" "EMPTY" "Ljava/util/Optional;" (.ref em)) (P4 : Sta Z h0 "com/example/purgatory/purgatory/model/QueueItemStatus" "NEW" "Lcom/example/purgatory/purgatory/model/QueueItemStatus;" (.ref b)) :
    MetFree l own_y14 (head1 (Jvm.Cond.code own_y14 prog_14_method_5_code 3 (some (.object "java/util/Optional")) :: ws) ({ frames := 3, cells := 1, slots := 1, locals := 38 } : Room)) (fun az Uz => az = #[(.ref a), (.ref b)] ∧ Z.Warmed39 Uz.vm ∧ Uz.heap = h0) (fun _ _ _ _ _ => True) (fun _ U o U' => ∃ v L, o = .returned v ∧ own_Qr2 Z a b v1 em h0 n0 v U'.heap L ∧ FrameEnd U o U' L ({ frames := 3, cells := 1, slots := 1, locals := 38 } : Room).cells ({ frames := 3, cells := 1, slots := 1, locals := 38 } : Room).slots) := by
  refine MetFree.of_bodySF own_pf_r2 hisR ?_
  intro p e s m args below meth c s₁ Bd hml0 hP hK
  obtain ⟨rfl, hZ, hh⟩ := hP
  have hx := Bd.exec
  have hby := Bd.bytes
  have hml : c.maxLocals = 3 := hml0
  have hown : s.vm.findClass "com/example/purgatory/purgatory/model/QueueRetentionPolicy" = some m.cls := findClass_of_methodNamed Bd.named
  have hnm := (name_of_methodNamed Bd.named Bd.method).1
  have hlk : meth.locks = false := BodyLoose.notSynchronized Bd
  have hret := Bd.returns
  have X0 : Stand p l e ({ frames := 3, cells := 1, slots := 1, locals := 38 } : Room) s m #[(.ref a), (.ref b)] below meth c s₁ [] 0 0 := Stand.of_body Bd
  have e0 : s₁.heap = h0 := by rw [← hh, Bd.state]; rfl
  have N0 := Fr.nil n0
  show own_E p e below (own_K s (own_Qr2 Z a b v1 em h0 n0) ({ frames := 3, cells := 1, slots := 1, locals := 38 } : Room).cells ({ frames := 3, cells := 1, slots := 1, locals := 38 } : Room).slots) s₁ (entryFrame m #[(.ref a), (.ref b)] 3)
  refine own_S (mkF m 0 #[rv a, rv b, .unset] []) (fun _ k => castTop (own_ef_r2 m (a) (b)) k) ?_
  obtain ⟨_, _, ⟨T1, L1, k1, n1⟩, -, X1, ⟨Lc1, hQ1, l1, y1, z1⟩, st1⟩ := Jvm.LawKit.callS X0 hx (y := own_y11) hown (mvT hZ (own_g hw (i := 81) rfl)) (mvT hZ (own_g hw (i := 82) rfl)) (mvT hZ (own_g hw (i := 83) rfl)) (mvT hZ (own_g hw (i := 84) rfl)) (by decide) (backOf (W := 0) (own_rmoe l Z a0 hw [] (em) h0 n0 Z0 P3) hZ (own_g hw (i := 84) rfl) (own_g hw (i := 83) rfl) (by decide) (by decide)) (g := (mkF m 0 #[rv a, rv b, .unset] [])) rfl (by rw [hml]; rfl) (argsL := []) (rest := []) (lenOf own_pd___Ljava_util_Optional_ rfl) rfl (by show 2 * 0 + _ ≤ _; exact Nat.le_of_eq rfl) (hb hby d11_0) (fun _ _ => ⟨rfl, e0, (by decide : 0 + 0 ≤ _), (by decide : 0 + 0 ≤ _)⟩)
  dsimp only [Pt.U, Pt.locs, Pt.cells, Pt.slots] at X1 l1 y1 z1 st1 hQ1
  subst l1 y1 z1
  obtain ⟨rfl, N1q, e1⟩ := hQ1
  have N1 := Fr.app N0 N1q
  refine own_S (mkF m 3 #[rv a, rv b, .unset] [(.ref em)]) (fun _ k => st1 _ k) ?_
  refine own_S (mkF m 4 #[rv a, rv b, rv em] []) (fun _ k => XS.astoreN X1.here hx rfl (hb hby d11_3) rfl rfl (l' := #[rv a, rv b, rv em]) rfl k) ?_
  refine own_S (mkF m 5 #[rv a, rv b, rv em] [(.ref b)]) (fun _ k => XS.aloadN X1.here hx rfl (hb hby d11_4) rfl rfl k) ?_
  obtain ⟨cq2, kq2, q2a, q2b, q2c⟩ := isOf hZ e1 P0
  obtain ⟨_, _, ⟨T2, L2, k2, n2⟩, -, X2, ⟨Lc2, hQ2, l2, y2, z2⟩, st2⟩ := X1.virtualBack hx (y := own_y4) (z := own_y4) hown (mvT hZ (own_g hw (i := 86) rfl)) (mvT hZ (own_g hw (i := 87) rfl)) (notFace_of_selects (args := #[]) (mvT hZ (own_g hw (i := 89) rfl))) (mvT hZ (own_g hw (i := 89) rfl)) (mvT hZ (own_g hw (i := 88) rfl)) (by decide) (backOf (W := 0) (own_rmif0 l Z a0 hw [] (b) h0 n0 Z0 P1) hZ (own_g hw (i := 90) rfl) (own_g hw (i := 74) rfl) (by decide) (by decide)) q2a q2c (g := (mkF m 5 #[rv a, rv b, rv em] [(.ref b)])) rfl (by rw [hml]; rfl) (Steps.refl _) (argsL := []) (rest := []) (lenOf own_pd___Z rfl) rfl (by show 2 * 0 + _ ≤ _; exact Nat.le_of_eq rfl) (hb hby d11_5) (fun _ _ => ⟨rfl, e1, (by decide : 0 + 0 ≤ _), (by decide : 0 + 0 ≤ _)⟩)
  dsimp only [Pt.U, Pt.locs, Pt.cells, Pt.slots] at X2 l2 y2 z2 st2 hQ2
  subst l2 y2 z2
  obtain ⟨rfl, N2q, e2⟩ := hQ2
  have N2 := Fr.app N1 N2q
  refine own_S (mkF m 8 #[rv a, rv b, rv em] [(.int 0)]) (fun _ k => st2.trans k) ?_
  have hc3 : (0 : Int32) = (0 : Int32) := by decide
  refine own_S (mkF m 22 #[rv a, rv b, rv em] []) (fun _ k => XS.ifYes X2.here hx rfl (pc0 := 8) (pc' := 22) rfl (hb hby d11_8) rfl ((if0 _ _).trans (teq hc3).1) (by decide) (by decide) k) ?_
  refine own_S (mkF m 23 #[rv a, rv b, rv em] [(.ref b)]) (fun _ k => XS.aloadN X2.here hx rfl (hb hby d11_22) rfl rfl k) ?_
  obtain ⟨T4, X4, e4, st4⟩ := getS (host := "") X2 hx hZ hown (own_g hw (i := 93) rfl) Via.refl e2 P4 (g := (mkF m 23 #[rv a, rv b, rv em] [(.ref b)])) rfl (hb hby d11_23)
  refine own_S (mkF m 26 #[rv a, rv b, rv em] [(.ref b), (.ref b)]) st4 ?_
  have hc5 : b = b := rfl
  refine own_S (mkF m 29 #[rv a, rv b, rv em] []) (fun _ k => acmp X4 hx rfl rfl rfl (pc0 := 26) (pc' := 29) (same := true) rfl (hb hby d11_26) rfl (by simp [hc5]) (by decide) (by decide) k) ?_
  refine own_S (mkF m 30 #[rv a, rv b, rv em] [(.ref a)]) (fun _ k => XS.aloadN X4.here hx rfl (hb hby d11_29) rfl rfl k) ?_
  obtain ⟨T6, X6, e6, st6⟩ := getF X4 hx hZ hown (host := "") (Or.inl (own_g hw (i := 15) rfl)) Via.refl e4 P2 (g := (mkF m 30 #[rv a, rv b, rv em] [(.ref a)])) rfl rfl (hb hby d11_30)
  refine own_S (mkF m 33 #[rv a, rv b, rv em] [(.ref v1)]) st6 ?_
  obtain ⟨_, _, ⟨T7, L7, k7, n7⟩, -, X7, ⟨Lc7, hQ7, l7, y7, z7⟩, st7⟩ := Jvm.LawKit.callS X6 hx (y := own_y13) hown (mvT hZ (own_g hw (i := 94) rfl)) (mvT hZ (own_g hw (i := 95) rfl)) (mvT hZ (own_g hw (i := 83) rfl)) (mvT hZ (own_g hw (i := 96) rfl)) (by decide) (backOf (W := 0) (own_rmoo l Z a0 hw [] (v1) h0 n0 Z0 ) hZ (own_g hw (i := 96) rfl) (own_g hw (i := 83) rfl) (by decide) (by decide)) (g := (mkF m 33 #[rv a, rv b, rv em] [(.ref v1)])) rfl (by rw [hml]; rfl) (argsL := [(.ref v1)]) (rest := []) (lenOf own_pd__Ljava_lang_Object__Ljava_util_Optional_ rfl) rfl (by show 2 * 0 + _ ≤ _; exact Nat.le_of_eq rfl) (hb hby d11_33) (fun _ _ => ⟨rfl, e6, (by decide : 0 + 1 ≤ _), (by decide : 0 + 1 ≤ _)⟩)
  dsimp only [Pt.U, Pt.locs, Pt.cells, Pt.slots] at X7 l7 y7 z7 st7 hQ7
  subst l7 y7 z7
  obtain ⟨r, rfl, N7q, K7q, F8, F9, pp10⟩ := hQ7
  have N7 := Fr.app N2 N7q
  refine own_S (mkF m 36 #[rv a, rv b, rv em] [(.ref r)]) (fun _ k => st7 _ k) ?_
  have K7 : Keep h0 T7.heap [] := (Keep.refl h0 []).trans K7q all0
  have n11 : b ≠ r := Nat.ne_of_lt (Nat.lt_of_lt_of_le P0.lt pp10)
  have n12 : a ≠ r := Nat.ne_of_lt (Nat.lt_of_lt_of_le P2.lt pp10)
  have ge_r : n0 ≤ r := Nat.le_trans Z0 pp10
  have fr_r : h0.size ≤ r := Nat.le_trans (Keep.refl h0 []).1 pp10
  have F13 := P0.keep K7q
  have F14 := P1.keep K7q nin0
  have F15 := P2.keep K7q nin0
  have F16 := P3.ext ⟨K7q.1, fun a c q => K7q.2.1 a c q nin0⟩
  have F17 := P4.ext ⟨K7q.1, fun a c q => K7q.2.1 a c q nin0⟩
  have Z7 : n0 ≤ T7.heap.size := Nat.le_trans Z0 K7q.1
  refine own_S (mkF m 37 #[rv a, rv b, rv r] []) (fun _ k => XS.astoreN X7.here hx rfl (hb hby d11_36) rfl rfl (l' := #[rv a, rv b, rv r]) rfl k) ?_
  refine own_S (mkF m 38 #[rv a, rv b, rv r] [(.ref r)]) (fun _ k => XS.aloadN X7.here hx rfl (hb hby d11_37) rfl rfl k) ?_
  exact own_ret X7 hx hlk (t := (.object "java/util/Optional")) hret rfl (Or.inr (Or.inr (Or.inr (Or.inr ⟨rfl, rfl, rfl⟩)))) (hb hby d11_38) ⟨r, rfl, N7, K7, F8, F9, fr_r⟩ (by decide) (by decide)
theorem own_pf_r3 : plainFor own_y14 = true := by first | exact plainFor_of_name (show plainName "com/example/purgatory/purgatory/model/QueueRetentionPolicy" = true by first | (simp [plainName, overriddenIn]; done) | decide +kernel) | decide +kernel
theorem own_ef_r3 (m : MethodId) (y0 : Addr) (y1 : Addr) : entryFrame m #[(.ref y0), (.ref y1)] 3 = mkF m 0 #[rv y0, rv y1, .unset] [] := by first | (simp [entryFrame, mkF, argsToLocals, Value.category]; done) | rfl
def own_Qr3 (Z : State) (a : Addr) (b : Addr) (nw : Addr) (em : Addr) (h0 : Heap) (n0 : Nat) (v : Option Value) (h : Heap) (L : List Loc) : Prop := v = some (.ref em) ∧ Fr n0 L ∧ h = h0
set_option maxRecDepth 65536 in
set_option maxHeartbeats 40000000 in
theorem own_rmr3 (l : Launch) (Z : State) (a0 : Array Value) (hw : ∀ d ∈ tables_1, d.before a0 Z = true) (ws : List Jvm.Cond) (a : Addr) (b : Addr) (nw : Addr) (em : Addr) (h0 : Heap) (n0 : Nat) (Z0 : n0 ≤ h0.size) (P0 : Exa Z h0 b "com/example/purgatory/purgatory/model/QueueItemStatus") (P1 : Fld Z h0 b "com/example/purgatory/purgatory/model/QueueItemStatus" "isFinal" "Z" (.int (0 : Int32))) (P2 : Sta Z h0 "java/util/Optional" "EMPTY" "Ljava/util/Optional;" (.ref em)) (P3 : Sta Z h0 "com/example/purgatory/purgatory/model/QueueItemStatus" "NEW" "Lcom/example/purgatory/purgatory/model/QueueItemStatus;" (.ref nw)) (NE_b_nw : b ≠ nw) :
    MetFree l own_y14 (head1 (Jvm.Cond.code own_y14 prog_14_method_5_code 3 (some (.object "java/util/Optional")) :: ws) ({ frames := 1, cells := 0, slots := 0, locals := 12 } : Room)) (fun az Uz => az = #[(.ref a), (.ref b)] ∧ Z.Warmed39 Uz.vm ∧ Uz.heap = h0) (fun _ _ _ _ _ => True) (fun _ U o U' => ∃ v L, o = .returned v ∧ own_Qr3 Z a b nw em h0 n0 v U'.heap L ∧ FrameEnd U o U' L ({ frames := 1, cells := 0, slots := 0, locals := 12 } : Room).cells ({ frames := 1, cells := 0, slots := 0, locals := 12 } : Room).slots) := by
  refine MetFree.of_bodySF own_pf_r3 hisR ?_
  intro p e s m args below meth c s₁ Bd hml0 hP hK
  obtain ⟨rfl, hZ, hh⟩ := hP
  have hx := Bd.exec
  have hby := Bd.bytes
  have hml : c.maxLocals = 3 := hml0
  have hown : s.vm.findClass "com/example/purgatory/purgatory/model/QueueRetentionPolicy" = some m.cls := findClass_of_methodNamed Bd.named
  have hnm := (name_of_methodNamed Bd.named Bd.method).1
  have hlk : meth.locks = false := BodyLoose.notSynchronized Bd
  have hret := Bd.returns
  have X0 : Stand p l e ({ frames := 1, cells := 0, slots := 0, locals := 12 } : Room) s m #[(.ref a), (.ref b)] below meth c s₁ [] 0 0 := Stand.of_body Bd
  have e0 : s₁.heap = h0 := by rw [← hh, Bd.state]; rfl
  have N0 := Fr.nil n0
  show own_E p e below (own_K s (own_Qr3 Z a b nw em h0 n0) ({ frames := 1, cells := 0, slots := 0, locals := 12 } : Room).cells ({ frames := 1, cells := 0, slots := 0, locals := 12 } : Room).slots) s₁ (entryFrame m #[(.ref a), (.ref b)] 3)
  refine own_S (mkF m 0 #[rv a, rv b, .unset] []) (fun _ k => castTop (own_ef_r3 m (a) (b)) k) ?_
  obtain ⟨_, _, ⟨T1, L1, k1, n1⟩, -, X1, ⟨Lc1, hQ1, l1, y1, z1⟩, st1⟩ := Jvm.LawKit.callS X0 hx (y := own_y11) hown (mvT hZ (own_g hw (i := 81) rfl)) (mvT hZ (own_g hw (i := 82) rfl)) (mvT hZ (own_g hw (i := 83) rfl)) (mvT hZ (own_g hw (i := 84) rfl)) (by decide) (backOf (W := 0) (own_rmoe l Z a0 hw [] (em) h0 n0 Z0 P2) hZ (own_g hw (i := 84) rfl) (own_g hw (i := 83) rfl) (by decide) (by decide)) (g := (mkF m 0 #[rv a, rv b, .unset] [])) rfl (by rw [hml]; rfl) (argsL := []) (rest := []) (lenOf own_pd___Ljava_util_Optional_ rfl) rfl (by show 2 * 0 + _ ≤ _; exact Nat.le_of_eq rfl) (hb hby d11_0) (fun _ _ => ⟨rfl, e0, (by decide : 0 + 0 ≤ _), (by decide : 0 + 0 ≤ _)⟩)
  dsimp only [Pt.U, Pt.locs, Pt.cells, Pt.slots] at X1 l1 y1 z1 st1 hQ1
  subst l1 y1 z1
  obtain ⟨rfl, N1q, e1⟩ := hQ1
  have N1 := Fr.app N0 N1q
  refine own_S (mkF m 3 #[rv a, rv b, .unset] [(.ref em)]) (fun _ k => st1 _ k) ?_
  refine own_S (mkF m 4 #[rv a, rv b, rv em] []) (fun _ k => XS.astoreN X1.here hx rfl (hb hby d11_3) rfl rfl (l' := #[rv a, rv b, rv em]) rfl k) ?_
  refine own_S (mkF m 5 #[rv a, rv b, rv em] [(.ref b)]) (fun _ k => XS.aloadN X1.here hx rfl (hb hby d11_4) rfl rfl k) ?_
  obtain ⟨cq2, kq2, q2a, q2b, q2c⟩ := isOf hZ e1 P0
  obtain ⟨_, _, ⟨T2, L2, k2, n2⟩, -, X2, ⟨Lc2, hQ2, l2, y2, z2⟩, st2⟩ := X1.virtualBack hx (y := own_y4) (z := own_y4) hown (mvT hZ (own_g hw (i := 86) rfl)) (mvT hZ (own_g hw (i := 87) rfl)) (notFace_of_selects (args := #[]) (mvT hZ (own_g hw (i := 89) rfl))) (mvT hZ (own_g hw (i := 89) rfl)) (mvT hZ (own_g hw (i := 88) rfl)) (by decide) (backOf (W := 0) (own_rmif0 l Z a0 hw [] (b) h0 n0 Z0 P1) hZ (own_g hw (i := 90) rfl) (own_g hw (i := 74) rfl) (by decide) (by decide)) q2a q2c (g := (mkF m 5 #[rv a, rv b, rv em] [(.ref b)])) rfl (by rw [hml]; rfl) (Steps.refl _) (argsL := []) (rest := []) (lenOf own_pd___Z rfl) rfl (by show 2 * 0 + _ ≤ _; exact Nat.le_of_eq rfl) (hb hby d11_5) (fun _ _ => ⟨rfl, e1, (by decide : 0 + 0 ≤ _), (by decide : 0 + 0 ≤ _)⟩)
  dsimp only [Pt.U, Pt.locs, Pt.cells, Pt.slots] at X2 l2 y2 z2 st2 hQ2
  subst l2 y2 z2
  obtain ⟨rfl, N2q, e2⟩ := hQ2
  have N2 := Fr.app N1 N2q
  refine own_S (mkF m 8 #[rv a, rv b, rv em] [(.int 0)]) (fun _ k => st2.trans k) ?_
  have hc3 : (0 : Int32) = (0 : Int32) := by decide
  refine own_S (mkF m 22 #[rv a, rv b, rv em] []) (fun _ k => XS.ifYes X2.here hx rfl (pc0 := 8) (pc' := 22) rfl (hb hby d11_8) rfl ((if0 _ _).trans (teq hc3).1) (by decide) (by decide) k) ?_
  refine own_S (mkF m 23 #[rv a, rv b, rv em] [(.ref b)]) (fun _ k => XS.aloadN X2.here hx rfl (hb hby d11_22) rfl rfl k) ?_
  obtain ⟨T4, X4, e4, st4⟩ := getS (host := "") X2 hx hZ hown (own_g hw (i := 93) rfl) Via.refl e2 P3 (g := (mkF m 23 #[rv a, rv b, rv em] [(.ref b)])) rfl (hb hby d11_23)
  refine own_S (mkF m 26 #[rv a, rv b, rv em] [(.ref nw), (.ref b)]) st4 ?_
  have hc5 : ¬ (b = nw) := NE_b_nw
  refine own_S (mkF m 37 #[rv a, rv b, rv em] []) (fun _ k => acmp X4 hx rfl rfl rfl (pc0 := 26) (pc' := 37) (same := false) rfl (hb hby d11_26) rfl (by simp [hc5]) (by decide) (by decide) k) ?_
  refine own_S (mkF m 38 #[rv a, rv b, rv em] [(.ref em)]) (fun _ k => XS.aloadN X4.here hx rfl (hb hby d11_37) rfl rfl k) ?_
  exact own_ret X4 hx hlk (t := (.object "java/util/Optional")) hret rfl (Or.inr (Or.inr (Or.inr (Or.inr ⟨rfl, rfl, rfl⟩)))) (hb hby d11_38) (by rw [e4]; exact ⟨rfl, N2, rfl⟩) (by decide) (by decide)
theorem d17_0 : decode jdk_32_method_6_code 0 = .ok (.aload_n 0, 1) := by decide +kernel
theorem d17_1 : decode jdk_32_method_6_code 1 = .ok (.getfield 13, 3) := by decide +kernel
theorem d17_4 : decode jdk_32_method_6_code 4 = .ok (.ifnull 7, 3) := by decide +kernel
theorem d17_7 : decode jdk_32_method_6_code 7 = .ok (.iconst 1, 1) := by decide +kernel
theorem d17_8 : decode jdk_32_method_6_code 8 = .ok (.goto 4, 3) := by decide +kernel
theorem d17_12 : decode jdk_32_method_6_code 12 = .ok (.ireturn, 1) := by decide +kernel
theorem own_pf_ip1 : plainFor own_y15 = true := by first | exact plainFor_of_name (show plainName "java/util/Optional" = true by first | (simp [plainName, overriddenIn]; done) | decide +kernel) | decide +kernel
theorem own_ef_ip1 (m : MethodId) (y0 : Addr) : entryFrame m #[(.ref y0)] 1 = mkF m 0 #[rv y0] [] := by first | (simp [entryFrame, mkF, argsToLocals, Value.category]; done) | rfl
def own_Qip1 (Z : State) (a : Addr) (v1 : Addr) (h0 : Heap) (n0 : Nat) (v : Option Value) (h : Heap) (L : List Loc) : Prop := v = some (.int (1 : Int32)) ∧ Fr n0 L ∧ h = h0
set_option maxRecDepth 65536 in
set_option maxHeartbeats 40000000 in
theorem own_rmip1 (l : Launch) (Z : State) (a0 : Array Value) (hw : ∀ d ∈ tables_1, d.before a0 Z = true) (ws : List Jvm.Cond) (a : Addr) (v1 : Addr) (h0 : Heap) (n0 : Nat) (Z0 : n0 ≤ h0.size) (P0 : Fld Z h0 a "java/util/Optional" "value" "Ljava/lang/Object;" (.ref v1)) :
    MetFree l own_y15 (head1 (Jvm.Cond.code own_y15 jdk_32_method_6_code 1 (some .boolean) :: ws) ({ frames := 0, cells := 0, slots := 0, locals := 0 } : Room)) (fun az Uz => az = #[(.ref a)] ∧ Z.Warmed39 Uz.vm ∧ Uz.heap = h0) (fun _ _ _ _ _ => True) (fun _ U o U' => ∃ v L, o = .returned v ∧ own_Qip1 Z a v1 h0 n0 v U'.heap L ∧ FrameEnd U o U' L ({ frames := 0, cells := 0, slots := 0, locals := 0 } : Room).cells ({ frames := 0, cells := 0, slots := 0, locals := 0 } : Room).slots) := by
  refine MetFree.of_bodySF own_pf_ip1 hisR ?_
  intro p e s m args below meth c s₁ Bd hml0 hP hK
  obtain ⟨rfl, hZ, hh⟩ := hP
  have hx := Bd.exec
  have hby := Bd.bytes
  have hml : c.maxLocals = 1 := hml0
  have hown : s.vm.findClass "java/util/Optional" = some m.cls := findClass_of_methodNamed Bd.named
  have hnm := (name_of_methodNamed Bd.named Bd.method).1
  have hlk : meth.locks = false := BodyLoose.notSynchronized Bd
  have hret := Bd.returns
  have X0 : Stand p l e ({ frames := 0, cells := 0, slots := 0, locals := 0 } : Room) s m #[(.ref a)] below meth c s₁ [] 0 0 := Stand.of_body Bd
  have e0 : s₁.heap = h0 := by rw [← hh, Bd.state]; rfl
  have N0 := Fr.nil n0
  show own_E p e below (own_K s (own_Qip1 Z a v1 h0 n0) ({ frames := 0, cells := 0, slots := 0, locals := 0 } : Room).cells ({ frames := 0, cells := 0, slots := 0, locals := 0 } : Room).slots) s₁ (entryFrame m #[(.ref a)] 1)
  refine own_S (mkF m 0 #[rv a] []) (fun _ k => castTop (own_ef_ip1 m (a)) k) ?_
  refine own_S (mkF m 1 #[rv a] [(.ref a)]) (fun _ k => XS.aloadN X0.here hx rfl (hb hby d17_0) rfl rfl k) ?_
  obtain ⟨T1, X1, e1, st1⟩ := getF X0 hx hZ hown (host := "") (Or.inl (own_g hw (i := 107) rfl)) Via.refl e0 P0 (g := (mkF m 1 #[rv a] [(.ref a)])) rfl rfl (hb hby d17_1)
  refine own_S (mkF m 4 #[rv a] [(.ref v1)]) st1 ?_
  refine own_S (mkF m 7 #[rv a] []) (fun _ k => XS.ifnullNo X1.here hx rfl (hb hby d17_4) rfl k) ?_
  refine own_S (mkF m 8 #[rv a] [(.int 1)]) (fun _ k => XS.iconst X1.here hx rfl (hb hby d17_7) k) ?_
  refine own_S (mkF m 12 #[rv a] [(.int 1)]) (fun _ k => XS.goto X1.here hx rfl (pc0 := 8) (pc' := 12) rfl (hb hby d17_8) (by decide) (by decide) k) ?_
  exact own_retN X1 hx hlk (t := .boolean) hret (by simp) (hb hby d17_12) (by rw [e1]; exact ⟨rfl, N0, rfl⟩) (by decide) (by decide)
theorem d17_11 : decode jdk_32_method_6_code 11 = .ok (.iconst 0, 1) := by decide +kernel
theorem own_pf_ip0 : plainFor own_y15 = true := by first | exact plainFor_of_name (show plainName "java/util/Optional" = true by first | (simp [plainName, overriddenIn]; done) | decide +kernel) | decide +kernel
theorem own_ef_ip0 (m : MethodId) (y0 : Addr) : entryFrame m #[(.ref y0)] 1 = mkF m 0 #[rv y0] [] := by first | (simp [entryFrame, mkF, argsToLocals, Value.category]; done) | rfl
def own_Qip0 (Z : State) (a : Addr) (h0 : Heap) (n0 : Nat) (v : Option Value) (h : Heap) (L : List Loc) : Prop := v = some (.int (0 : Int32)) ∧ Fr n0 L ∧ h = h0
set_option maxRecDepth 65536 in
set_option maxHeartbeats 40000000 in
theorem own_rmip0 (l : Launch) (Z : State) (a0 : Array Value) (hw : ∀ d ∈ tables_1, d.before a0 Z = true) (ws : List Jvm.Cond) (a : Addr) (h0 : Heap) (n0 : Nat) (Z0 : n0 ≤ h0.size) (P0 : Fld Z h0 a "java/util/Optional" "value" "Ljava/lang/Object;" .null) :
    MetFree l own_y15 (head1 (Jvm.Cond.code own_y15 jdk_32_method_6_code 1 (some .boolean) :: ws) ({ frames := 0, cells := 0, slots := 0, locals := 0 } : Room)) (fun az Uz => az = #[(.ref a)] ∧ Z.Warmed39 Uz.vm ∧ Uz.heap = h0) (fun _ _ _ _ _ => True) (fun _ U o U' => ∃ v L, o = .returned v ∧ own_Qip0 Z a h0 n0 v U'.heap L ∧ FrameEnd U o U' L ({ frames := 0, cells := 0, slots := 0, locals := 0 } : Room).cells ({ frames := 0, cells := 0, slots := 0, locals := 0 } : Room).slots) := by
  refine MetFree.of_bodySF own_pf_ip0 hisR ?_
  intro p e s m args below meth c s₁ Bd hml0 hP hK
  obtain ⟨rfl, hZ, hh⟩ := hP
  have hx := Bd.exec
  have hby := Bd.bytes
  have hml : c.maxLocals = 1 := hml0
  have hown : s.vm.findClass "java/util/Optional" = some m.cls := findClass_of_methodNamed Bd.named
  have hnm := (name_of_methodNamed Bd.named Bd.method).1
  have hlk : meth.locks = false := BodyLoose.notSynchronized Bd
  have hret := Bd.returns
  have X0 : Stand p l e ({ frames := 0, cells := 0, slots := 0, locals := 0 } : Room) s m #[(.ref a)] below meth c s₁ [] 0 0 := Stand.of_body Bd
  have e0 : s₁.heap = h0 := by rw [← hh, Bd.state]; rfl
  have N0 := Fr.nil n0
  show own_E p e below (own_K s (own_Qip0 Z a h0 n0) ({ frames := 0, cells := 0, slots := 0, locals := 0 } : Room).cells ({ frames := 0, cells := 0, slots := 0, locals := 0 } : Room).slots) s₁ (entryFrame m #[(.ref a)] 1)
  refine own_S (mkF m 0 #[rv a] []) (fun _ k => castTop (own_ef_ip0 m (a)) k) ?_
  refine own_S (mkF m 1 #[rv a] [(.ref a)]) (fun _ k => XS.aloadN X0.here hx rfl (hb hby d17_0) rfl rfl k) ?_
  obtain ⟨T1, X1, e1, st1⟩ := getF X0 hx hZ hown (host := "") (Or.inl (own_g hw (i := 107) rfl)) Via.refl e0 P0 (g := (mkF m 1 #[rv a] [(.ref a)])) rfl rfl (hb hby d17_1)
  refine own_S (mkF m 4 #[rv a] [.null]) st1 ?_
  refine own_S (mkF m 11 #[rv a] []) (fun _ k => XS.ifnullYes X1.here hx rfl (pc0 := 4) (pc' := 11) rfl (hb hby d17_4) rfl (by decide) (by decide) k) ?_
  refine own_S (mkF m 12 #[rv a] [(.int 0)]) (fun _ k => XS.iconst X1.here hx rfl (hb hby d17_11) k) ?_
  exact own_retN X1 hx hlk (t := .boolean) hret (by simp) (hb hby d17_12) (by rw [e1]; exact ⟨rfl, N0, rfl⟩) (by decide) (by decide)
theorem d18_0 : decode jdk_32_method_5_code 0 = .ok (.aload_n 0, 1) := by decide +kernel
theorem d18_1 : decode jdk_32_method_5_code 1 = .ok (.getfield 13, 3) := by decide +kernel
theorem d18_4 : decode jdk_32_method_5_code 4 = .ok (.ifnonnull 13, 3) := by decide +kernel
theorem d18_17 : decode jdk_32_method_5_code 17 = .ok (.aload_n 0, 1) := by decide +kernel
theorem d18_18 : decode jdk_32_method_5_code 18 = .ok (.getfield 13, 3) := by decide +kernel
theorem d18_21 : decode jdk_32_method_5_code 21 = .ok (.areturn, 1) := by decide +kernel
theorem own_pf_og : plainFor own_y16 = true := by first | exact plainFor_of_name (show plainName "java/util/Optional" = true by first | (simp [plainName, overriddenIn]; done) | decide +kernel) | decide +kernel
theorem own_ef_og (m : MethodId) (y0 : Addr) : entryFrame m #[(.ref y0)] 1 = mkF m 0 #[rv y0] [] := by first | (simp [entryFrame, mkF, argsToLocals, Value.category]; done) | rfl
def own_Qog (Z : State) (a : Addr) (v1 : Addr) (h0 : Heap) (n0 : Nat) (v : Option Value) (h : Heap) (L : List Loc) : Prop := v = some (.ref v1) ∧ Fr n0 L ∧ h = h0
set_option maxRecDepth 65536 in
set_option maxHeartbeats 40000000 in
theorem own_rmog (l : Launch) (Z : State) (a0 : Array Value) (hw : ∀ d ∈ tables_1, d.before a0 Z = true) (ws : List Jvm.Cond) (a : Addr) (v1 : Addr) (h0 : Heap) (n0 : Nat) (Z0 : n0 ≤ h0.size) (P0 : Fld Z h0 a "java/util/Optional" "value" "Ljava/lang/Object;" (.ref v1)) :
    MetFree l own_y16 (head1 (Jvm.Cond.code own_y16 jdk_32_method_5_code 1 (some (.object "java/lang/Object")) :: ws) ({ frames := 0, cells := 0, slots := 0, locals := 0 } : Room)) (fun az Uz => az = #[(.ref a)] ∧ Z.Warmed39 Uz.vm ∧ Uz.heap = h0) (fun _ _ _ _ _ => True) (fun _ U o U' => ∃ v L, o = .returned v ∧ own_Qog Z a v1 h0 n0 v U'.heap L ∧ FrameEnd U o U' L ({ frames := 0, cells := 0, slots := 0, locals := 0 } : Room).cells ({ frames := 0, cells := 0, slots := 0, locals := 0 } : Room).slots) := by
  refine MetFree.of_bodySF own_pf_og hisR ?_
  intro p e s m args below meth c s₁ Bd hml0 hP hK
  obtain ⟨rfl, hZ, hh⟩ := hP
  have hx := Bd.exec
  have hby := Bd.bytes
  have hml : c.maxLocals = 1 := hml0
  have hown : s.vm.findClass "java/util/Optional" = some m.cls := findClass_of_methodNamed Bd.named
  have hnm := (name_of_methodNamed Bd.named Bd.method).1
  have hlk : meth.locks = false := BodyLoose.notSynchronized Bd
  have hret := Bd.returns
  have X0 : Stand p l e ({ frames := 0, cells := 0, slots := 0, locals := 0 } : Room) s m #[(.ref a)] below meth c s₁ [] 0 0 := Stand.of_body Bd
  have e0 : s₁.heap = h0 := by rw [← hh, Bd.state]; rfl
  have N0 := Fr.nil n0
  show own_E p e below (own_K s (own_Qog Z a v1 h0 n0) ({ frames := 0, cells := 0, slots := 0, locals := 0 } : Room).cells ({ frames := 0, cells := 0, slots := 0, locals := 0 } : Room).slots) s₁ (entryFrame m #[(.ref a)] 1)
  refine own_S (mkF m 0 #[rv a] []) (fun _ k => castTop (own_ef_og m (a)) k) ?_
  refine own_S (mkF m 1 #[rv a] [(.ref a)]) (fun _ k => XS.aloadN X0.here hx rfl (hb hby d18_0) rfl rfl k) ?_
  obtain ⟨T1, X1, e1, st1⟩ := getF X0 hx hZ hown (host := "") (Or.inl (own_g hw (i := 107) rfl)) Via.refl e0 P0 (g := (mkF m 1 #[rv a] [(.ref a)])) rfl rfl (hb hby d18_1)
  refine own_S (mkF m 4 #[rv a] [(.ref v1)]) st1 ?_
  refine own_S (mkF m 17 #[rv a] []) (fun _ k => XS.ifnonnullYes X1.here hx rfl (pc0 := 4) (pc' := 17) rfl (hb hby d18_4) rfl (by decide) (by decide) k) ?_
  refine own_S (mkF m 18 #[rv a] [(.ref a)]) (fun _ k => XS.aloadN X1.here hx rfl (hb hby d18_17) rfl rfl k) ?_
  obtain ⟨T2, X2, e2, st2⟩ := getF X1 hx hZ hown (host := "") (Or.inl (own_g hw (i := 107) rfl)) Via.refl e1 P0 (g := (mkF m 18 #[rv a] [(.ref a)])) rfl rfl (hb hby d18_18)
  refine own_S (mkF m 21 #[rv a] [(.ref v1)]) st2 ?_
  exact own_ret X2 hx hlk (t := (.object "java/lang/Object")) hret rfl (Or.inr (Or.inr (Or.inr (Or.inr ⟨rfl, rfl, rfl⟩)))) (hb hby d18_21) (by rw [e2]; exact ⟨rfl, N0, rfl⟩) (by decide) (by decide)
theorem own_pd___Lcom_example_purgatory_purgatory_model_Retention_ : parseMethodDescriptor "()Lcom/example/purgatory/purgatory/model/Retention;" = some ⟨[], (some (.object "com/example/purgatory/purgatory/model/Retention"))⟩ := by decide +kernel
theorem own_pd__Lcom_example_purgatory_purgatory_model_Retention_Lcom_example_purgatory_purgatory_model_Retention_Ljava_lang_Long_Z_V : parseMethodDescriptor "(Lcom/example/purgatory/purgatory/model/Retention;Lcom/example/purgatory/purgatory/model/Retention;Ljava/lang/Long;Z)V" = some ⟨[(.object "com/example/purgatory/purgatory/model/Retention"), (.object "com/example/purgatory/purgatory/model/Retention"), (.object "java/lang/Long"), .boolean], none⟩ := by decide +kernel
theorem own_pd__I_Lcom_example_purgatory_purgatory_model_QueueItemStatus_ : parseMethodDescriptor "(I)Lcom/example/purgatory/purgatory/model/QueueItemStatus;" = some ⟨[.int], (some (.object "com/example/purgatory/purgatory/model/QueueItemStatus"))⟩ := by decide +kernel
theorem own_pd__Lcom_example_purgatory_purgatory_model_QueueItemStatus__Ljava_util_Optional_ : parseMethodDescriptor "(Lcom/example/purgatory/purgatory/model/QueueItemStatus;)Ljava/util/Optional;" = some ⟨[(.object "com/example/purgatory/purgatory/model/QueueItemStatus")], (some (.object "java/util/Optional"))⟩ := by decide +kernel
theorem own_pd___Ljava_lang_Object_ : parseMethodDescriptor "()Ljava/lang/Object;" = some ⟨[], (some (.object "java/lang/Object"))⟩ := by decide +kernel
theorem own_pf_law : plainFor x = true := by first | exact plainFor_of_name (show plainName "com/example/purgatory/purgatory/model/QueueRetentionPolicyRetentionOfPinLaw" = true by first | (simp [plainName, overriddenIn]; done) | decide +kernel) | decide +kernel
theorem own_ef_law (m : MethodId) (y0 : Int32) (y1 : Int32) : entryFrame m #[(.int y0), (.int y1)] maxLocals = mkF m 0 #[iv y0, iv y1, .unset, .unset, .unset, .unset, .unset, .unset, .unset, .unset, .unset, .unset] [] := by first | (simp [entryFrame, mkF, argsToLocals, Value.category, maxLocals]; done) | rfl
def own_Qlaw (Z : State) (sx : Int32) (fx : Int32) (qd : Addr) (fi : Addr) (un : Addr) (dl : Addr) (em : Addr) (b0 : Addr) (b1 : Addr) (b2 : Addr) (b3 : Addr) (b4 : Addr) (b5 : Addr) (b6 : Addr) (h0 : Heap) (n0 : Nat) (v : Option Value) (h : Heap) (L : List Loc) : Prop := v = some (.int 1) ∧ Fr n0 L ∧ True
set_option maxRecDepth 65536 in
set_option maxHeartbeats 40000000 in
theorem own_rmlaw (l : Launch) (Z : State) (a0 : Array Value) (hw : ∀ d ∈ tables_1, d.before a0 Z = true) (ws : List Jvm.Cond) (sx : Int32) (fx : Int32) (qd : Addr) (fi : Addr) (un : Addr) (dl : Addr) (em : Addr) (b0 : Addr) (b1 : Addr) (b2 : Addr) (b3 : Addr) (b4 : Addr) (b5 : Addr) (b6 : Addr) (h0 : Heap) (n0 : Nat) (Z0 : n0 ≤ h0.size) (P0 : Sta Z h0 "com/example/purgatory/purgatory/model/QueueRetentionPolicy" "QUEUE_DEFAULT" "Lcom/example/purgatory/purgatory/model/QueueRetentionPolicy;" (.ref qd)) (P1 : Exa Z h0 qd "com/example/purgatory/purgatory/model/QueueRetentionPolicy") (P2 : Fld Z h0 qd "com/example/purgatory/purgatory/model/QueueRetentionPolicy" "finished" "Lcom/example/purgatory/purgatory/model/Retention;" (.ref fi)) (P3 : Fld Z h0 qd "com/example/purgatory/purgatory/model/QueueRetentionPolicy" "unprocessed" "Lcom/example/purgatory/purgatory/model/Retention;" (.ref un)) (P4 : Exa Z h0 fi "com/example/purgatory/purgatory/model/Retention") (P5 : Exa Z h0 un "com/example/purgatory/purgatory/model/Retention") (P6 : Fld Z h0 fi "com/example/purgatory/purgatory/model/Retention" "action" "Lcom/example/purgatory/purgatory/model/RetentionAction;" (.ref dl)) (P7 : Fld Z h0 un "com/example/purgatory/purgatory/model/Retention" "action" "Lcom/example/purgatory/purgatory/model/RetentionAction;" (.ref dl)) (P8 : Exa Z h0 dl "com/example/purgatory/purgatory/model/RetentionAction") (P9 : Fld Z h0 dl "com/example/purgatory/purgatory/model/RetentionAction" "writesArchive" "Z" (.int (0 : Int32))) (P10 : Sta Z h0 "java/util/Optional" "EMPTY" "Ljava/util/Optional;" (.ref em)) (P11 : Exa Z h0 em "java/util/Optional") (P12 : Fld Z h0 em "java/util/Optional" "value" "Ljava/lang/Object;" .null) (P13 : Sta Z h0 "com/example/purgatory/purgatory/model/QueueItemStatus" "NEW" "Lcom/example/purgatory/purgatory/model/QueueItemStatus;" (.ref b0)) (P14 : Exa Z h0 b0 "com/example/purgatory/purgatory/model/QueueItemStatus") (P15 : Fld Z h0 b0 "com/example/purgatory/purgatory/model/QueueItemStatus" "isFinal" "Z" (.int (0 : Int32))) (P16 : Sta Z h0 "com/example/purgatory/purgatory/model/QueueItemStatus" "IN_PROGRESS" "Lcom/example/purgatory/purgatory/model/QueueItemStatus;" (.ref b1)) (P17 : Exa Z h0 b1 "com/example/purgatory/purgatory/model/QueueItemStatus") (P18 : Fld Z h0 b1 "com/example/purgatory/purgatory/model/QueueItemStatus" "isFinal" "Z" (.int (0 : Int32))) (P19 : Sta Z h0 "com/example/purgatory/purgatory/model/QueueItemStatus" "FAILED" "Lcom/example/purgatory/purgatory/model/QueueItemStatus;" (.ref b2)) (P20 : Exa Z h0 b2 "com/example/purgatory/purgatory/model/QueueItemStatus") (P21 : Fld Z h0 b2 "com/example/purgatory/purgatory/model/QueueItemStatus" "isFinal" "Z" (.int (1 : Int32))) (P22 : Sta Z h0 "com/example/purgatory/purgatory/model/QueueItemStatus" "SUCCESSFUL" "Lcom/example/purgatory/purgatory/model/QueueItemStatus;" (.ref b3)) (P23 : Exa Z h0 b3 "com/example/purgatory/purgatory/model/QueueItemStatus") (P24 : Fld Z h0 b3 "com/example/purgatory/purgatory/model/QueueItemStatus" "isFinal" "Z" (.int (1 : Int32))) (P25 : Sta Z h0 "com/example/purgatory/purgatory/model/QueueItemStatus" "ABANDONED" "Lcom/example/purgatory/purgatory/model/QueueItemStatus;" (.ref b4)) (P26 : Exa Z h0 b4 "com/example/purgatory/purgatory/model/QueueItemStatus") (P27 : Fld Z h0 b4 "com/example/purgatory/purgatory/model/QueueItemStatus" "isFinal" "Z" (.int (1 : Int32))) (P28 : Sta Z h0 "com/example/purgatory/purgatory/model/QueueItemStatus" "RETRIED" "Lcom/example/purgatory/purgatory/model/QueueItemStatus;" (.ref b5)) (P29 : Exa Z h0 b5 "com/example/purgatory/purgatory/model/QueueItemStatus") (P30 : Fld Z h0 b5 "com/example/purgatory/purgatory/model/QueueItemStatus" "isFinal" "Z" (.int (1 : Int32))) (P31 : Sta Z h0 "com/example/purgatory/purgatory/model/QueueItemStatus" "DELETED" "Lcom/example/purgatory/purgatory/model/QueueItemStatus;" (.ref b6)) (P32 : Exa Z h0 b6 "com/example/purgatory/purgatory/model/QueueItemStatus") (P33 : Fld Z h0 b6 "com/example/purgatory/purgatory/model/QueueItemStatus" "isFinal" "Z" (.int (1 : Int32))) (NE_b1_b0 : b1 ≠ b0) :
    MetFree l x (head1 (Jvm.Cond.code x code maxLocals ret :: ws) room_1) (fun az Uz => az = #[(.int sx), (.int fx)] ∧ Z.Warmed39 Uz.vm ∧ Uz.heap = h0) (fun _ _ _ _ _ => True) (fun _ U o U' => ∃ v L, o = .returned v ∧ own_Qlaw Z sx fx qd fi un dl em b0 b1 b2 b3 b4 b5 b6 h0 n0 v U'.heap L ∧ ReturnedEndW U o U' L room_1.cells room_1.slots) := by
  refine MetFree.of_bodySF own_pf_law hisR ?_
  intro p e s m args below meth c s₁ Bd hml0 hP hK
  obtain ⟨rfl, hZ, hh⟩ := hP
  have hx := Bd.exec
  have hby := Bd.bytes
  have hml : c.maxLocals = 12 := hml0
  have hown : s.vm.findClass "com/example/purgatory/purgatory/model/QueueRetentionPolicyRetentionOfPinLaw" = some m.cls := findClass_of_methodNamed Bd.named
  have hnm := (name_of_methodNamed Bd.named Bd.method).1
  have hlk : meth.locks = false := BodyLoose.notSynchronized Bd
  have hret := Bd.returns
  have X0 : Stand p l e room_1 (s.setVm s.vm) m #[(.int sx), (.int fx)] below meth c s₁ [] 0 0 := Stand.of_body Bd
  have e0 : s₁.heap = h0 := by rw [← hh, Bd.state]; rfl
  have N0 := Fr.nil n0
  show own_E p e below (own_KW s (own_Qlaw Z sx fx qd fi un dl em b0 b1 b2 b3 b4 b5 b6 h0 n0) room_1.cells room_1.slots) s₁ (entryFrame m #[(.int sx), (.int fx)] maxLocals)
  refine own_S (mkF m 0 #[iv sx, iv fx, .unset, .unset, .unset, .unset, .unset, .unset, .unset, .unset, .unset, .unset] []) (fun _ k => castTop (own_ef_law m (sx) (fx)) k) ?_
  obtain ⟨T1, X1, e1, st1⟩ := getS (host := "") X0 hx hZ hown (own_g hw (i := 0) rfl) Via.refl e0 P0 (g := (mkF m 0 #[iv sx, iv fx, .unset, .unset, .unset, .unset, .unset, .unset, .unset, .unset, .unset, .unset] [])) rfl (hb hby at_0)
  refine own_S (mkF m 3 #[iv sx, iv fx, .unset, .unset, .unset, .unset, .unset, .unset, .unset, .unset, .unset, .unset] [(.ref qd)]) st1 ?_
  obtain ⟨cq2, kq2, q2a, q2b, q2c⟩ := isOf hZ e1 P1
  obtain ⟨_, _, ⟨T2, L2, k2, n2⟩, -, X2, ⟨Lc2, hQ2, l2, y2, z2⟩, st2⟩ := X1.virtualBack hx (y := own_y0) (z := own_y0) hown (mvT hZ (own_g hw (i := 3) rfl)) (mvT hZ (own_g hw (i := 4) rfl)) (notFace_of_selects (args := #[]) (mvT hZ (own_g hw (i := 6) rfl))) (mvT hZ (own_g hw (i := 6) rfl)) (mvT hZ (own_g hw (i := 5) rfl)) (by decide) (backOf (W := 0) (own_rmfin l Z a0 hw [] (qd) (fi) h0 n0 Z0 P2) hZ (own_g hw (i := 7) rfl) (own_g hw (i := 1) rfl) (by decide) (by decide)) q2a q2c (g := (mkF m 3 #[iv sx, iv fx, .unset, .unset, .unset, .unset, .unset, .unset, .unset, .unset, .unset, .unset] [(.ref qd)])) rfl (by rw [hml]; rfl) (Steps.refl _) (argsL := []) (rest := []) (lenOf own_pd___Lcom_example_purgatory_purgatory_model_Retention_ rfl) rfl (by show 2 * 0 + _ ≤ _; exact Nat.le_of_eq rfl) (hb hby at_3) (fun _ _ => ⟨rfl, e1, (by decide : 0 + 0 ≤ _), (by decide : 0 + 0 ≤ _)⟩)
  dsimp only [Pt.U, Pt.locs, Pt.cells, Pt.slots] at X2 l2 y2 z2 st2 hQ2
  subst l2 y2 z2
  obtain ⟨rfl, N2q, e2⟩ := hQ2
  have N2 := Fr.app N0 N2q
  refine own_S (mkF m 6 #[iv sx, iv fx, .unset, .unset, .unset, .unset, .unset, .unset, .unset, .unset, .unset, .unset] [(.ref fi)]) (fun _ k => st2.trans k) ?_
  refine own_S (mkF m 7 #[iv sx, iv fx, rv fi, .unset, .unset, .unset, .unset, .unset, .unset, .unset, .unset, .unset] []) (fun _ k => XS.astoreN X2.here hx rfl (hb hby at_6) rfl rfl (l' := #[iv sx, iv fx, rv fi, .unset, .unset, .unset, .unset, .unset, .unset, .unset, .unset, .unset]) rfl k) ?_
  obtain ⟨T3, X3, e3, st3⟩ := getS (host := "") X2 hx hZ hown (own_g hw (i := 0) rfl) Via.refl e2 P0 (g := (mkF m 7 #[iv sx, iv fx, rv fi, .unset, .unset, .unset, .unset, .unset, .unset, .unset, .unset, .unset] [])) rfl (hb hby at_7)
  refine own_S (mkF m 10 #[iv sx, iv fx, rv fi, .unset, .unset, .unset, .unset, .unset, .unset, .unset, .unset, .unset] [(.ref qd)]) st3 ?_
  obtain ⟨cq4, kq4, q4a, q4b, q4c⟩ := isOf hZ e3 P1
  obtain ⟨_, _, ⟨T4, L4, k4, n4⟩, -, X4, ⟨Lc4, hQ4, l4, y4, z4⟩, st4⟩ := X3.virtualBack hx (y := own_y1) (z := own_y1) hown (mvT hZ (own_g hw (i := 10) rfl)) (mvT hZ (own_g hw (i := 11) rfl)) (notFace_of_selects (args := #[]) (mvT hZ (own_g hw (i := 13) rfl))) (mvT hZ (own_g hw (i := 13) rfl)) (mvT hZ (own_g hw (i := 12) rfl)) (by decide) (backOf (W := 0) (own_rmunp l Z a0 hw [] (qd) (un) h0 n0 Z0 P3) hZ (own_g hw (i := 14) rfl) (own_g hw (i := 1) rfl) (by decide) (by decide)) q4a q4c (g := (mkF m 10 #[iv sx, iv fx, rv fi, .unset, .unset, .unset, .unset, .unset, .unset, .unset, .unset, .unset] [(.ref qd)])) rfl (by rw [hml]; rfl) (Steps.refl _) (argsL := []) (rest := []) (lenOf own_pd___Lcom_example_purgatory_purgatory_model_Retention_ rfl) rfl (by show 2 * 0 + _ ≤ _; exact Nat.le_of_eq rfl) (hb hby at_10) (fun _ _ => ⟨rfl, e3, (by decide : 0 + 0 ≤ _), (by decide : 0 + 0 ≤ _)⟩)
  dsimp only [Pt.U, Pt.locs, Pt.cells, Pt.slots] at X4 l4 y4 z4 st4 hQ4
  subst l4 y4 z4
  obtain ⟨rfl, N4q, e4⟩ := hQ4
  have N4 := Fr.app N2 N4q
  refine own_S (mkF m 13 #[iv sx, iv fx, rv fi, .unset, .unset, .unset, .unset, .unset, .unset, .unset, .unset, .unset] [(.ref un)]) (fun _ k => st4.trans k) ?_
  refine own_S (mkF m 14 #[iv sx, iv fx, rv fi, rv un, .unset, .unset, .unset, .unset, .unset, .unset, .unset, .unset] []) (fun _ k => XS.astoreN X4.here hx rfl (hb hby at_13) rfl rfl (l' := #[iv sx, iv fx, rv fi, rv un, .unset, .unset, .unset, .unset, .unset, .unset, .unset, .unset]) rfl k) ?_
  refine own_S (mkF m 15 #[iv sx, iv fx, rv fi, rv un, .unset, .unset, .unset, .unset, .unset, .unset, .unset, .unset] [(.int fx)]) (fun _ k => XS.iloadN X4.here hx rfl (hb hby at_14) rfl k) ?_
  refine own_S (mkF m 16 #[iv sx, iv fx, rv fi, rv un, .unset, .unset, .unset, .unset, .unset, .unset, .unset, .unset] [(.int 1), (.int fx)]) (fun _ k => XS.iconst X4.here hx rfl (hb hby at_15) k) ?_
  refine own_S (mkF m 17 #[iv sx, iv fx, rv fi, rv un, .unset, .unset, .unset, .unset, .unset, .unset, .unset, .unset] [(.int (fx &&& (1 : Int32)))]) (fun _ k => XS.iand X4.here hx rfl (hb hby at_16) rfl k) ?_
  obtain ⟨sw, h_sw⟩ : ∃ z : Int32, z = (if (fx &&& (1 : Int32)) = (0 : Int32) then (0 : Int32) else (1 : Int32)) := ⟨_, rfl⟩
  refine own_S (T' := T4) (mkF m 25 #[iv sx, iv fx, rv fi, rv un, .unset, .unset, .unset, .unset, .unset, .unset, .unset, .unset] [(.int sw)]) (fun _ k => ?_) ?_
  ·
    by_cases hj5 : (fx &&& (1 : Int32)) = (0 : Int32)
    ·
      refine own_s (mkF m 24 #[iv sx, iv fx, rv fi, rv un, .unset, .unset, .unset, .unset, .unset, .unset, .unset, .unset] []) (fun _ k => XS.ifYes X4.here hx rfl (pc0 := 17) (pc' := 24) rfl (hb hby at_17) rfl ((if0 _ _).trans (teq hj5).1) (by decide) (by decide) k) ?_
      refine own_s (mkF m 25 #[iv sx, iv fx, rv fi, rv un, .unset, .unset, .unset, .unset, .unset, .unset, .unset, .unset] [(.int 0)]) (fun _ k => XS.iconst X4.here hx rfl (hb hby at_24) k) ?_
      rw [show sw = (0 : Int32) from by rw [h_sw, if_pos hj5]] at k
      exact k
    ·
      refine own_s (mkF m 20 #[iv sx, iv fx, rv fi, rv un, .unset, .unset, .unset, .unset, .unset, .unset, .unset, .unset] []) (fun _ k => XS.ifNo X4.here hx rfl (hb hby at_17) rfl ((if0 _ _).trans (feq hj5).1) k) ?_
      refine own_s (mkF m 21 #[iv sx, iv fx, rv fi, rv un, .unset, .unset, .unset, .unset, .unset, .unset, .unset, .unset] [(.int 1)]) (fun _ k => XS.iconst X4.here hx rfl (hb hby at_20) k) ?_
      refine own_s (mkF m 25 #[iv sx, iv fx, rv fi, rv un, .unset, .unset, .unset, .unset, .unset, .unset, .unset, .unset] [(.int 1)]) (fun _ k => XS.goto X4.here hx rfl (pc0 := 21) (pc' := 25) rfl (hb hby at_21) (by decide) (by decide) k) ?_
      rw [show sw = (1 : Int32) from by rw [h_sw, if_neg hj5]] at k
      exact k
  refine own_S (mkF m 27 #[iv sx, iv fx, rv fi, rv un, iv sw, .unset, .unset, .unset, .unset, .unset, .unset, .unset] []) (fun _ k => XS.istore X4.here hx rfl (hb hby at_25) rfl (l' := #[iv sx, iv fx, rv fi, rv un, iv sw, .unset, .unset, .unset, .unset, .unset, .unset, .unset]) rfl k) ?_
  refine own_S (mkF m 28 #[iv sx, iv fx, rv fi, rv un, iv sw, .unset, .unset, .unset, .unset, .unset, .unset, .unset] [(.int fx)]) (fun _ k => XS.iloadN X4.here hx rfl (hb hby at_27) rfl k) ?_
  refine own_S (mkF m 29 #[iv sx, iv fx, rv fi, rv un, iv sw, .unset, .unset, .unset, .unset, .unset, .unset, .unset] [(.int 2), (.int fx)]) (fun _ k => XS.iconst X4.here hx rfl (hb hby at_28) k) ?_
  refine own_S (mkF m 30 #[iv sx, iv fx, rv fi, rv un, iv sw, .unset, .unset, .unset, .unset, .unset, .unset, .unset] [(.int (fx &&& (2 : Int32)))]) (fun _ k => XS.iand X4.here hx rfl (hb hby at_29) rfl k) ?_
  obtain ⟨df, h_df⟩ : ∃ z : Int32, z = (if (fx &&& (2 : Int32)) = (0 : Int32) then (0 : Int32) else (1 : Int32)) := ⟨_, rfl⟩
  refine own_S (T' := T4) (mkF m 38 #[iv sx, iv fx, rv fi, rv un, iv sw, .unset, .unset, .unset, .unset, .unset, .unset, .unset] [(.int df)]) (fun _ k => ?_) ?_
  ·
    by_cases hj6 : (fx &&& (2 : Int32)) = (0 : Int32)
    ·
      refine own_s (mkF m 37 #[iv sx, iv fx, rv fi, rv un, iv sw, .unset, .unset, .unset, .unset, .unset, .unset, .unset] []) (fun _ k => XS.ifYes X4.here hx rfl (pc0 := 30) (pc' := 37) rfl (hb hby at_30) rfl ((if0 _ _).trans (teq hj6).1) (by decide) (by decide) k) ?_
      refine own_s (mkF m 38 #[iv sx, iv fx, rv fi, rv un, iv sw, .unset, .unset, .unset, .unset, .unset, .unset, .unset] [(.int 0)]) (fun _ k => XS.iconst X4.here hx rfl (hb hby at_37) k) ?_
      rw [show df = (0 : Int32) from by rw [h_df, if_pos hj6]] at k
      exact k
    ·
      refine own_s (mkF m 33 #[iv sx, iv fx, rv fi, rv un, iv sw, .unset, .unset, .unset, .unset, .unset, .unset, .unset] []) (fun _ k => XS.ifNo X4.here hx rfl (hb hby at_30) rfl ((if0 _ _).trans (feq hj6).1) k) ?_
      refine own_s (mkF m 34 #[iv sx, iv fx, rv fi, rv un, iv sw, .unset, .unset, .unset, .unset, .unset, .unset, .unset] [(.int 1)]) (fun _ k => XS.iconst X4.here hx rfl (hb hby at_33) k) ?_
      refine own_s (mkF m 38 #[iv sx, iv fx, rv fi, rv un, iv sw, .unset, .unset, .unset, .unset, .unset, .unset, .unset] [(.int 1)]) (fun _ k => XS.goto X4.here hx rfl (pc0 := 34) (pc' := 38) rfl (hb hby at_34) (by decide) (by decide) k) ?_
      rw [show df = (1 : Int32) from by rw [h_df, if_neg hj6]] at k
      exact k
  refine own_S (mkF m 40 #[iv sx, iv fx, rv fi, rv un, iv sw, iv df, .unset, .unset, .unset, .unset, .unset, .unset] []) (fun _ k => XS.istore X4.here hx rfl (hb hby at_38) rfl (l' := #[iv sx, iv fx, rv fi, rv un, iv sw, iv df, .unset, .unset, .unset, .unset, .unset, .unset]) rfl k) ?_
  refine own_S (mkF m 42 #[iv sx, iv fx, rv fi, rv un, iv sw, iv df, .unset, .unset, .unset, .unset, .unset, .unset] [(.int sw)]) (fun _ k => XS.iload X4.here hx rfl (hb hby at_40) rfl k) ?_
  by_cases hsw : sw = (0 : Int32)
  · -- sw = (0 : Int32)
    refine own_S (mkF m 49 #[iv sx, iv fx, rv fi, rv un, iv sw, iv df, .unset, .unset, .unset, .unset, .unset, .unset] []) (fun _ k => XS.ifYes X4.here hx rfl (pc0 := 42) (pc' := 49) rfl (hb hby at_42) rfl ((if0 _ _).trans (teq hsw).1) (by decide) (by decide) k) ?_
    refine own_S (mkF m 50 #[iv sx, iv fx, rv fi, rv un, iv sw, iv df, .unset, .unset, .unset, .unset, .unset, .unset] [(.ref fi)]) (fun _ k => XS.aloadN X4.here hx rfl (hb hby at_49) rfl rfl k) ?_
    refine own_S (mkF m 52 #[iv sx, iv fx, rv fi, rv un, iv sw, iv df, rv fi, .unset, .unset, .unset, .unset, .unset] []) (fun _ k => XS.astore X4.here hx rfl (hb hby at_50) rfl rfl (l' := #[iv sx, iv fx, rv fi, rv un, iv sw, iv df, rv fi, .unset, .unset, .unset, .unset, .unset]) rfl k) ?_
    refine own_S (mkF m 54 #[iv sx, iv fx, rv fi, rv un, iv sw, iv df, rv fi, .unset, .unset, .unset, .unset, .unset] [(.int sw)]) (fun _ k => XS.iload X4.here hx rfl (hb hby at_52) rfl k) ?_
    have hc7 : sw = (0 : Int32) := hsw
    refine own_S (mkF m 61 #[iv sx, iv fx, rv fi, rv un, iv sw, iv df, rv fi, .unset, .unset, .unset, .unset, .unset] []) (fun _ k => XS.ifYes X4.here hx rfl (pc0 := 54) (pc' := 61) rfl (hb hby at_54) rfl ((if0 _ _).trans (teq hc7).1) (by decide) (by decide) k) ?_
    refine own_S (mkF m 62 #[iv sx, iv fx, rv fi, rv un, iv sw, iv df, rv fi, .unset, .unset, .unset, .unset, .unset] [(.ref un)]) (fun _ k => XS.aloadN X4.here hx rfl (hb hby at_61) rfl rfl k) ?_
    refine own_S (mkF m 64 #[iv sx, iv fx, rv fi, rv un, iv sw, iv df, rv fi, rv un, .unset, .unset, .unset, .unset] []) (fun _ k => XS.astore X4.here hx rfl (hb hby at_62) rfl rfl (l' := #[iv sx, iv fx, rv fi, rv un, iv sw, iv df, rv fi, rv un, .unset, .unset, .unset, .unset]) rfl k) ?_
    obtain ⟨T8, h8, X8, e8, E8, A8, D8, -, st8⟩ := newO X4 hx hZ hown (own_g hw (i := 17) rfl) (own_g hw (i := 18) rfl) (own_g hw (i := 1) rfl) e4 (g := (mkF m 64 #[iv sx, iv fx, rv fi, rv un, iv sw, iv df, rv fi, rv un, .unset, .unset, .unset, .unset] [])) rfl (hb hby at_64) (by decide) (by decide)
    obtain ⟨pq, g8⟩ : ∃ z, z = h0.size := ⟨_, rfl⟩
    rw [← g8] at A8 D8 st8
    have n9 : qd ≠ pq := Nat.ne_of_lt (Nat.lt_of_lt_of_eq P1.lt g8.symm)
    have n10 : fi ≠ pq := Nat.ne_of_lt (Nat.lt_of_lt_of_eq P4.lt g8.symm)
    have n11 : un ≠ pq := Nat.ne_of_lt (Nat.lt_of_lt_of_eq P5.lt g8.symm)
    have n12 : dl ≠ pq := Nat.ne_of_lt (Nat.lt_of_lt_of_eq P8.lt g8.symm)
    have n13 : em ≠ pq := Nat.ne_of_lt (Nat.lt_of_lt_of_eq P11.lt g8.symm)
    have n14 : b0 ≠ pq := Nat.ne_of_lt (Nat.lt_of_lt_of_eq P14.lt g8.symm)
    have n15 : b1 ≠ pq := Nat.ne_of_lt (Nat.lt_of_lt_of_eq P17.lt g8.symm)
    have n16 : b2 ≠ pq := Nat.ne_of_lt (Nat.lt_of_lt_of_eq P20.lt g8.symm)
    have n17 : b3 ≠ pq := Nat.ne_of_lt (Nat.lt_of_lt_of_eq P23.lt g8.symm)
    have n18 : b4 ≠ pq := Nat.ne_of_lt (Nat.lt_of_lt_of_eq P26.lt g8.symm)
    have n19 : b5 ≠ pq := Nat.ne_of_lt (Nat.lt_of_lt_of_eq P29.lt g8.symm)
    have n20 : b6 ≠ pq := Nat.ne_of_lt (Nat.lt_of_lt_of_eq P32.lt g8.symm)
    have ge_pq : n0 ≤ pq := Nat.le_trans Z0 (Nat.le_of_eq g8.symm)
    have F21 := P0.ext E8
    have F22 := P1.ext E8
    have F23 := P2.ext E8
    have F24 := P3.ext E8
    have F25 := P4.ext E8
    have F26 := P5.ext E8
    have F27 := P6.ext E8
    have F28 := P7.ext E8
    have F29 := P8.ext E8
    have F30 := P9.ext E8
    have F31 := P10.ext E8
    have F32 := P11.ext E8
    have F33 := P12.ext E8
    have F34 := P13.ext E8
    have F35 := P14.ext E8
    have F36 := P15.ext E8
    have F37 := P16.ext E8
    have F38 := P17.ext E8
    have F39 := P18.ext E8
    have F40 := P19.ext E8
    have F41 := P20.ext E8
    have F42 := P21.ext E8
    have F43 := P22.ext E8
    have F44 := P23.ext E8
    have F45 := P24.ext E8
    have F46 := P25.ext E8
    have F47 := P26.ext E8
    have F48 := P27.ext E8
    have F49 := P28.ext E8
    have F50 := P29.ext E8
    have F51 := P30.ext E8
    have F52 := P31.ext E8
    have F53 := P32.ext E8
    have F54 := P33.ext E8
    have Z8 : n0 ≤ h8.size := Nat.le_trans Z0 E8.1
    have F55 : Fld Z h8 pq "com/example/purgatory/purgatory/model/QueueRetentionPolicy" "finished" "Lcom/example/purgatory/purgatory/model/Retention;" .null := D8 (Or.inr (own_g hw (i := 9) rfl)) (ty := (.object "com/example/purgatory/purgatory/model/Retention")) (by decide)
    have F56 : Fld Z h8 pq "com/example/purgatory/purgatory/model/QueueRetentionPolicy" "unprocessed" "Lcom/example/purgatory/purgatory/model/Retention;" .null := D8 (Or.inr (own_g hw (i := 16) rfl)) (ty := (.object "com/example/purgatory/purgatory/model/Retention")) (by decide)
    have F57 : Fld Z h8 pq "com/example/purgatory/purgatory/model/QueueRetentionPolicy" "bucketId" "Ljava/lang/Long;" .null := D8 (Or.inr (own_g hw (i := 65) rfl)) (ty := (.object "java/lang/Long")) (by decide)
    have F58 : Fld Z h8 pq "com/example/purgatory/purgatory/model/QueueRetentionPolicy" "isDefault" "Z" (.int (0 : Int32)) := D8 (Or.inr (own_g hw (i := 67) rfl)) (ty := .boolean) (by decide)
    refine own_S (mkF m 67 #[iv sx, iv fx, rv fi, rv un, iv sw, iv df, rv fi, rv un, .unset, .unset, .unset, .unset] [(.ref pq)]) st8 ?_
    refine own_S (mkF m 68 #[iv sx, iv fx, rv fi, rv un, iv sw, iv df, rv fi, rv un, .unset, .unset, .unset, .unset] [(.ref pq), (.ref pq)]) (fun _ k => XS.dup X8.here hx rfl (hb hby at_67) rfl rfl k) ?_
    refine own_S (mkF m 70 #[iv sx, iv fx, rv fi, rv un, iv sw, iv df, rv fi, rv un, .unset, .unset, .unset, .unset] [(.ref fi), (.ref pq), (.ref pq)]) (fun _ k => XS.aload X8.here hx rfl (hb hby at_68) rfl rfl k) ?_
    refine own_S (mkF m 72 #[iv sx, iv fx, rv fi, rv un, iv sw, iv df, rv fi, rv un, .unset, .unset, .unset, .unset] [(.ref un), (.ref fi), (.ref pq), (.ref pq)]) (fun _ k => XS.aload X8.here hx rfl (hb hby at_70) rfl rfl k) ?_
    refine own_S (mkF m 73 #[iv sx, iv fx, rv fi, rv un, iv sw, iv df, rv fi, rv un, .unset, .unset, .unset, .unset] [.null, (.ref un), (.ref fi), (.ref pq), (.ref pq)]) (fun _ k => XS.aconstNull X8.here hx rfl (hb hby at_72) k) ?_
    refine own_S (mkF m 75 #[iv sx, iv fx, rv fi, rv un, iv sw, iv df, rv fi, rv un, .unset, .unset, .unset, .unset] [(.int df), .null, (.ref un), (.ref fi), (.ref pq), (.ref pq)]) (fun _ k => XS.iload X8.here hx rfl (hb hby at_73) rfl k) ?_
    obtain ⟨_, _, ⟨T59, L59, k59, n59⟩, -, Xa59, hSa59, hg59, ⟨Lc59, hQ59, l59, y59, z59⟩, st59⟩ := X8.specialBackS hx (y := own_y9) rfl hown (mvT hZ (own_g hw (i := 19) rfl)) (mvT hZ (own_g hw (i := 20) rfl)) (mvT hZ (own_g hw (i := 21) rfl)) (by decide) (backOfS (W := 1) (own_rmqi l Z a0 hw [] (pq) (fi) (un) (dl) (df) h8 n0 Z8 A8 F55 F56 F57 F58 F25 F26 F27 F28 F29 F30 ge_pq) hZ (own_g hw (i := 21) rfl) (own_g hw (i := 1) rfl) (by decide) (by decide)) (g := (mkF m 75 #[iv sx, iv fx, rv fi, rv un, iv sw, iv df, rv fi, rv un, .unset, .unset, .unset, .unset] [(.int df), .null, (.ref un), (.ref fi), (.ref pq), (.ref pq)])) rfl (by rw [hml]; rfl) (Steps.refl _) (a := pq) (argsL := [(.ref fi), (.ref un), .null, (.int df)]) (rest := [(.ref pq)]) (lenOf own_pd__Lcom_example_purgatory_purgatory_model_Retention_Lcom_example_purgatory_purgatory_model_Retention_Ljava_lang_Long_Z_V rfl) rfl (by show 2 * 0 + _ ≤ _; exact Nat.le_of_eq rfl) (hb hby at_75) (fun _ _ => ⟨rfl, e8, (by decide : 1 + 5 ≤ _), (by decide : 4 + 86 ≤ _)⟩)
    dsimp only [Pt.U, Pt.locs, Pt.cells, Pt.slots] at Xa59 hSa59 hg59 l59 y59 z59 st59 hQ59
    obtain ⟨X59, hS59, hZ59, hown59⟩ := rebS (vm0 := s.vm) (n1 := T8.heap.size) ((State.WarmedH.refl s).since 0) (Nat.zero_le _) Xa59 hSa59 hg59 hZ hown
    subst l59 y59 z59
    obtain ⟨rfl, N59q, K59q, F60, F61, F62⟩ := hQ59
    have N59 := Fr.app N4 N59q
    refine own_S (mkF m 78 #[iv sx, iv fx, rv fi, rv un, iv sw, iv df, rv fi, rv un, .unset, .unset, .unset, .unset] [(.ref pq)]) (fun _ k => st59.trans k) ?_
    have F63 := Sta_keep (n0 := 0) F21 K59q ((own_allS (old_plain F58) (fun _ q => nomatch q)))
    have F64 := F22.keep K59q
    have F65 := F23.keep K59q (ninS n9 nin0)
    have F66 := F24.keep K59q (ninS n9 nin0)
    have F67 := F25.keep K59q
    have F68 := F26.keep K59q
    have F69 := F27.keep K59q (ninS n10 nin0)
    have F70 := F28.keep K59q (ninS n11 nin0)
    have F71 := F29.keep K59q
    have F72 := F30.keep K59q (ninS n12 nin0)
    have F73 := Sta_keep (n0 := 0) F31 K59q ((own_allS (old_plain F58) (fun _ q => nomatch q)))
    have F74 := F32.keep K59q
    have F75 := F33.keep K59q (ninS n13 nin0)
    have F76 := Sta_keep (n0 := 0) F34 K59q ((own_allS (old_plain F58) (fun _ q => nomatch q)))
    have F77 := F35.keep K59q
    have F78 := F36.keep K59q (ninS n14 nin0)
    have F79 := Sta_keep (n0 := 0) F37 K59q ((own_allS (old_plain F58) (fun _ q => nomatch q)))
    have F80 := F38.keep K59q
    have F81 := F39.keep K59q (ninS n15 nin0)
    have F82 := Sta_keep (n0 := 0) F40 K59q ((own_allS (old_plain F58) (fun _ q => nomatch q)))
    have F83 := F41.keep K59q
    have F84 := F42.keep K59q (ninS n16 nin0)
    have F85 := Sta_keep (n0 := 0) F43 K59q ((own_allS (old_plain F58) (fun _ q => nomatch q)))
    have F86 := F44.keep K59q
    have F87 := F45.keep K59q (ninS n17 nin0)
    have F88 := Sta_keep (n0 := 0) F46 K59q ((own_allS (old_plain F58) (fun _ q => nomatch q)))
    have F89 := F47.keep K59q
    have F90 := F48.keep K59q (ninS n18 nin0)
    have F91 := Sta_keep (n0 := 0) F49 K59q ((own_allS (old_plain F58) (fun _ q => nomatch q)))
    have F92 := F50.keep K59q
    have F93 := F51.keep K59q (ninS n19 nin0)
    have F94 := Sta_keep (n0 := 0) F52 K59q ((own_allS (old_plain F58) (fun _ q => nomatch q)))
    have F95 := F53.keep K59q
    have F96 := F54.keep K59q (ninS n20 nin0)
    have Z59 : n0 ≤ T59.heap.size := Nat.le_trans Z8 K59q.1
    refine own_S (mkF m 80 #[iv sx, iv fx, rv fi, rv un, iv sw, iv df, rv fi, rv un, rv pq, .unset, .unset, .unset] []) (fun _ k => XS.astore X59.here hx rfl (hb hby at_78) rfl rfl (l' := #[iv sx, iv fx, rv fi, rv un, iv sw, iv df, rv fi, rv un, rv pq, .unset, .unset, .unset]) rfl k) ?_
    refine own_S (mkF m 81 #[iv sx, iv fx, rv fi, rv un, iv sw, iv df, rv fi, rv un, rv pq, .unset, .unset, .unset] [(.int sx)]) (fun _ k => XS.iloadN X59.here hx rfl (hb hby at_80) rfl k) ?_
    refine own_S (mkF m 83 #[iv sx, iv fx, rv fi, rv un, iv sw, iv df, rv fi, rv un, rv pq, .unset, .unset, .unset] [(.int 2147483647), (.int sx)]) (fun _ k => X59.ldcInt hx hown59 (mvT hZ59 (own_g hw (i := 68) rfl)) (g := (mkF m 81 #[iv sx, iv fx, rv fi, rv un, iv sw, iv df, rv fi, rv un, rv pq, .unset, .unset, .unset] [(.int sx)])) rfl (hb hby at_81) _ k) ?_
    refine own_S (mkF m 84 #[iv sx, iv fx, rv fi, rv un, iv sw, iv df, rv fi, rv un, rv pq, .unset, .unset, .unset] [(.int (sx &&& (2147483647 : Int32)))]) (fun _ k => XS.iand X59.here hx rfl (hb hby at_83) rfl k) ?_
    refine own_S (mkF m 86 #[iv sx, iv fx, rv fi, rv un, iv sw, iv df, rv fi, rv un, rv pq, .unset, .unset, .unset] [(.int 7), (.int (sx &&& (2147483647 : Int32)))]) (fun _ k => XS.bipush X59.here hx rfl (hb hby at_84) k) ?_
    refine own_S (mkF m 87 #[iv sx, iv fx, rv fi, rv un, iv sw, iv df, rv fi, rv un, rv pq, .unset, .unset, .unset] [(.int ((sx &&& (2147483647 : Int32)) % (7 : Int32)))]) (fun _ k => iremM X59 hx rfl (hb hby at_86) rfl (by decide) k) ?_
    refine own_S (mkF m 89 #[iv sx, iv fx, rv fi, rv un, iv sw, iv df, rv fi, rv un, rv pq, iv ((sx &&& (2147483647 : Int32)) % (7 : Int32)), .unset, .unset] []) (fun _ k => XS.istore X59.here hx rfl (hb hby at_87) rfl (l' := #[iv sx, iv fx, rv fi, rv un, iv sw, iv df, rv fi, rv un, rv pq, iv ((sx &&& (2147483647 : Int32)) % (7 : Int32)), .unset, .unset]) rfl k) ?_
    obtain ⟨kk, h_kk⟩ : ∃ z : Int32, z = ((sx &&& (2147483647 : Int32)) % (7 : Int32)) := ⟨_, rfl⟩
    refine own_S (T' := T59) (mkF m 89 #[iv sx, iv fx, rv fi, rv un, iv sw, iv df, rv fi, rv un, rv pq, iv kk, .unset, .unset] []) (fun _ k => by subst h_kk; exact k) ?_
    have o_kk := own_m7 sx kk h_kk
    rcases o_kk with q97_0 | q98_1 | q99_2 | q100_3 | q101_4 | q102_5 | q103_6
    · -- kk = 0
      subst q97_0
      refine own_S (mkF m 91 #[iv sx, iv fx, rv fi, rv un, iv sw, iv df, rv fi, rv un, rv pq, .val (.int 0), .unset, .unset] [(.int 0)]) (fun _ k => XS.iload X59.here hx rfl (hb hby at_89) rfl k) ?_
      obtain ⟨_, _, ⟨T104, L104, k104, n104⟩, -, X104, ⟨Lc104, hQ104, l104, y104, z104⟩, st104⟩ := Jvm.LawKit.callS X59 hx (y := own_y10) hown59 (mvT hZ59 (own_g hw (i := 69) rfl)) (mvT hZ59 (own_g hw (i := 70) rfl)) (mvT hZ59 (own_g hw (i := 71) rfl)) (mvT hZ59 (own_g hw (i := 72) rfl)) (by decide) (backOf (W := 0) (own_rmst0 l Z a0 hw [] (b0) T59.heap n0 Z59 F76) hZ59 (own_g hw (i := 72) rfl) (own_g hw (i := 71) rfl) (by decide) (by decide)) (g := (mkF m 91 #[iv sx, iv fx, rv fi, rv un, iv sw, iv df, rv fi, rv un, rv pq, .val (.int 0), .unset, .unset] [(.int 0)])) rfl (by rw [hml]; rfl) (argsL := [(.int 0)]) (rest := []) (lenOf own_pd__I_Lcom_example_purgatory_purgatory_model_QueueItemStatus_ rfl) rfl (by show 2 * 0 + _ ≤ _; exact Nat.le_of_eq rfl) (hb hby at_91) (fun _ _ => ⟨rfl, rfl, (by decide : 6 + 0 ≤ _), (by decide : 90 + 0 ≤ _)⟩)
      dsimp only [Pt.U, Pt.locs, Pt.cells, Pt.slots] at X104 l104 y104 z104 st104 hQ104
      subst l104 y104 z104
      obtain ⟨rfl, N104q, e104⟩ := hQ104
      have N104 := Fr.app N59 N104q
      refine own_S (mkF m 94 #[iv sx, iv fx, rv fi, rv un, iv sw, iv df, rv fi, rv un, rv pq, .val (.int 0), .unset, .unset] [(.ref b0)]) (fun _ k => st104 _ k) ?_
      refine own_S (mkF m 96 #[iv sx, iv fx, rv fi, rv un, iv sw, iv df, rv fi, rv un, rv pq, .val (.int 0), rv b0, .unset] []) (fun _ k => XS.astore X104.here hx rfl (hb hby at_94) rfl rfl (l' := #[iv sx, iv fx, rv fi, rv un, iv sw, iv df, rv fi, rv un, rv pq, .val (.int 0), rv b0, .unset]) rfl k) ?_
      refine own_S (mkF m 98 #[iv sx, iv fx, rv fi, rv un, iv sw, iv df, rv fi, rv un, rv pq, .val (.int 0), rv b0, .unset] [(.ref pq)]) (fun _ k => XS.aload X104.here hx rfl (hb hby at_96) rfl rfl k) ?_
      refine own_S (mkF m 100 #[iv sx, iv fx, rv fi, rv un, iv sw, iv df, rv fi, rv un, rv pq, .val (.int 0), rv b0, .unset] [(.ref b0), (.ref pq)]) (fun _ k => XS.aload X104.here hx rfl (hb hby at_98) rfl rfl k) ?_
      obtain ⟨cq105, kq105, q105a, q105b, q105c⟩ := isOf hZ59 e104 F60
      obtain ⟨_, _, ⟨T105, L105, k105, n105⟩, -, X105, ⟨Lc105, hQ105, l105, y105, z105⟩, st105⟩ := X104.virtualBack hx (y := own_y14) (z := own_y14) hown59 (mvT hZ59 (own_g hw (i := 76) rfl)) (mvT hZ59 (own_g hw (i := 77) rfl)) (notFace_of_selects (args := #[]) (mvT hZ59 (own_g hw (i := 79) rfl))) (mvT hZ59 (own_g hw (i := 79) rfl)) (mvT hZ59 (own_g hw (i := 78) rfl)) (by decide) (backOf (W := 0) (own_rmr2 l Z a0 hw [] (pq) (b0) (un) (em) T59.heap n0 Z59 F77 F78 F62 F73 F76) hZ59 (own_g hw (i := 80) rfl) (own_g hw (i := 1) rfl) (by decide) (by decide)) q105a q105c (g := (mkF m 100 #[iv sx, iv fx, rv fi, rv un, iv sw, iv df, rv fi, rv un, rv pq, .val (.int 0), rv b0, .unset] [(.ref b0), (.ref pq)])) rfl (by rw [hml]; rfl) (Steps.refl _) (argsL := [(.ref b0)]) (rest := []) (lenOf own_pd__Lcom_example_purgatory_purgatory_model_QueueItemStatus__Ljava_util_Optional_ rfl) rfl (by show 2 * 0 + _ ≤ _; exact Nat.le_of_eq rfl) (hb hby at_100) (fun _ _ => ⟨rfl, e104, (by decide : 6 + 1 ≤ _), (by decide : 90 + 1 ≤ _)⟩)
      dsimp only [Pt.U, Pt.locs, Pt.cells, Pt.slots] at X105 l105 y105 z105 st105 hQ105
      subst l105 y105 z105
      obtain ⟨op, rfl, N105q, K105q, F106, F107, pp108⟩ := hQ105
      have N105 := Fr.app N104 N105q
      refine own_S (mkF m 103 #[iv sx, iv fx, rv fi, rv un, iv sw, iv df, rv fi, rv un, rv pq, .val (.int 0), rv b0, .unset] [(.ref op)]) (fun _ k => st105.trans k) ?_
      have n109 : qd ≠ op := Nat.ne_of_lt (Nat.lt_of_lt_of_le F64.lt pp108)
      have n110 : fi ≠ op := Nat.ne_of_lt (Nat.lt_of_lt_of_le F67.lt pp108)
      have n111 : un ≠ op := Nat.ne_of_lt (Nat.lt_of_lt_of_le F68.lt pp108)
      have n112 : dl ≠ op := Nat.ne_of_lt (Nat.lt_of_lt_of_le F71.lt pp108)
      have n113 : em ≠ op := Nat.ne_of_lt (Nat.lt_of_lt_of_le F74.lt pp108)
      have n114 : b0 ≠ op := Nat.ne_of_lt (Nat.lt_of_lt_of_le F77.lt pp108)
      have n115 : b1 ≠ op := Nat.ne_of_lt (Nat.lt_of_lt_of_le F80.lt pp108)
      have n116 : b2 ≠ op := Nat.ne_of_lt (Nat.lt_of_lt_of_le F83.lt pp108)
      have n117 : b3 ≠ op := Nat.ne_of_lt (Nat.lt_of_lt_of_le F86.lt pp108)
      have n118 : b4 ≠ op := Nat.ne_of_lt (Nat.lt_of_lt_of_le F89.lt pp108)
      have n119 : b5 ≠ op := Nat.ne_of_lt (Nat.lt_of_lt_of_le F92.lt pp108)
      have n120 : b6 ≠ op := Nat.ne_of_lt (Nat.lt_of_lt_of_le F95.lt pp108)
      have n121 : pq ≠ op := Nat.ne_of_lt (Nat.lt_of_lt_of_le F60.lt pp108)
      have ge_op : n0 ≤ op := Nat.le_trans Z59 pp108
      have F122 := F63.ext ⟨K105q.1, fun a c q => K105q.2.1 a c q nin0⟩
      have F123 := F64.keep K105q
      have F124 := F65.keep K105q nin0
      have F125 := F66.keep K105q nin0
      have F126 := F67.keep K105q
      have F127 := F68.keep K105q
      have F128 := F69.keep K105q nin0
      have F129 := F70.keep K105q nin0
      have F130 := F71.keep K105q
      have F131 := F72.keep K105q nin0
      have F132 := F73.ext ⟨K105q.1, fun a c q => K105q.2.1 a c q nin0⟩
      have F133 := F74.keep K105q
      have F134 := F75.keep K105q nin0
      have F135 := F76.ext ⟨K105q.1, fun a c q => K105q.2.1 a c q nin0⟩
      have F136 := F77.keep K105q
      have F137 := F78.keep K105q nin0
      have F138 := F79.ext ⟨K105q.1, fun a c q => K105q.2.1 a c q nin0⟩
      have F139 := F80.keep K105q
      have F140 := F81.keep K105q nin0
      have F141 := F82.ext ⟨K105q.1, fun a c q => K105q.2.1 a c q nin0⟩
      have F142 := F83.keep K105q
      have F143 := F84.keep K105q nin0
      have F144 := F85.ext ⟨K105q.1, fun a c q => K105q.2.1 a c q nin0⟩
      have F145 := F86.keep K105q
      have F146 := F87.keep K105q nin0
      have F147 := F88.ext ⟨K105q.1, fun a c q => K105q.2.1 a c q nin0⟩
      have F148 := F89.keep K105q
      have F149 := F90.keep K105q nin0
      have F150 := F91.ext ⟨K105q.1, fun a c q => K105q.2.1 a c q nin0⟩
      have F151 := F92.keep K105q
      have F152 := F93.keep K105q nin0
      have F153 := F94.ext ⟨K105q.1, fun a c q => K105q.2.1 a c q nin0⟩
      have F154 := F95.keep K105q
      have F155 := F96.keep K105q nin0
      have F156 := F60.keep K105q
      have F157 := F61.keep K105q nin0
      have F158 := F62.keep K105q nin0
      have Z105 : n0 ≤ T105.heap.size := Nat.le_trans Z59 K105q.1
      have hk105 : T59.heap.size ≤ T105.heap.size := Nat.le_trans (Nat.le_refl T59.heap.size) K105q.1
      refine own_S (mkF m 105 #[iv sx, iv fx, rv fi, rv un, iv sw, iv df, rv fi, rv un, rv pq, .val (.int 0), rv b0, rv op] []) (fun _ k => XS.astore X105.here hx rfl (hb hby at_103) rfl rfl (l' := #[iv sx, iv fx, rv fi, rv un, iv sw, iv df, rv fi, rv un, rv pq, .val (.int 0), rv b0, rv op]) rfl k) ?_
      refine own_S (mkF m 107 #[iv sx, iv fx, rv fi, rv un, iv sw, iv df, rv fi, rv un, rv pq, .val (.int 0), rv b0, rv op] [(.int 0)]) (fun _ k => XS.iload X105.here hx rfl (hb hby at_105) rfl k) ?_
      have hc159 : (0 : Int32) = (0 : Int32) := by decide
      refine own_S (mkF m 110 #[iv sx, iv fx, rv fi, rv un, iv sw, iv df, rv fi, rv un, rv pq, .val (.int 0), rv b0, rv op] []) (fun _ k => XS.ifNo X105.here hx rfl (hb hby at_107) rfl ((if0 _ _).trans (teq hc159).2) k) ?_
      refine own_S (mkF m 112 #[iv sx, iv fx, rv fi, rv un, iv sw, iv df, rv fi, rv un, rv pq, .val (.int 0), rv b0, rv op] [(.ref op)]) (fun _ k => XS.aload X105.here hx rfl (hb hby at_110) rfl rfl k) ?_
      obtain ⟨cq160, kq160, q160a, q160b, q160c⟩ := isOf hZ59 rfl F106
      obtain ⟨_, _, ⟨T160, L160, k160, n160⟩, -, X160, ⟨Lc160, hQ160, l160, y160, z160⟩, st160⟩ := X105.virtualBack hx (y := own_y15) (z := own_y15) hown59 (mvT hZ59 (own_g hw (i := 109) rfl)) (mvT hZ59 (own_g hw (i := 110) rfl)) (notFace_of_selects (args := #[]) (mvT hZ59 (own_g hw (i := 112) rfl))) (mvT hZ59 (own_g hw (i := 112) rfl)) (mvT hZ59 (own_g hw (i := 111) rfl)) (by decide) (backOf (W := 0) (own_rmip1 l Z a0 hw [] (op) (un) T105.heap n0 Z105 F107) hZ59 (own_g hw (i := 113) rfl) (own_g hw (i := 83) rfl) (by decide) (by decide)) q160a q160c (g := (mkF m 112 #[iv sx, iv fx, rv fi, rv un, iv sw, iv df, rv fi, rv un, rv pq, .val (.int 0), rv b0, rv op] [(.ref op)])) rfl (by rw [hml]; rfl) (Steps.refl _) (argsL := []) (rest := []) (lenOf own_pd___Z rfl) rfl (by show 2 * 0 + _ ≤ _; exact Nat.le_of_eq rfl) (hb hby at_112) (fun _ _ => ⟨rfl, rfl, (by decide : 7 + 0 ≤ _), (by decide : 91 + 0 ≤ _)⟩)
      dsimp only [Pt.U, Pt.locs, Pt.cells, Pt.slots] at X160 l160 y160 z160 st160 hQ160
      subst l160 y160 z160
      obtain ⟨rfl, N160q, e160⟩ := hQ160
      have N160 := Fr.app N105 N160q
      refine own_S (mkF m 115 #[iv sx, iv fx, rv fi, rv un, iv sw, iv df, rv fi, rv un, rv pq, .val (.int 0), rv b0, rv op] [(.int 1)]) (fun _ k => st160.trans k) ?_
      have hc161 : ¬ ((1 : Int32) = (0 : Int32)) := by decide
      refine own_S (mkF m 118 #[iv sx, iv fx, rv fi, rv un, iv sw, iv df, rv fi, rv un, rv pq, .val (.int 0), rv b0, rv op] []) (fun _ k => XS.ifNo X160.here hx rfl (hb hby at_115) rfl ((if0 _ _).trans (feq hc161).1) k) ?_
      refine own_S (mkF m 120 #[iv sx, iv fx, rv fi, rv un, iv sw, iv df, rv fi, rv un, rv pq, .val (.int 0), rv b0, rv op] [(.ref op)]) (fun _ k => XS.aload X160.here hx rfl (hb hby at_118) rfl rfl k) ?_
      obtain ⟨cq162, kq162, q162a, q162b, q162c⟩ := isOf hZ59 e160 F106
      obtain ⟨_, _, ⟨T162, L162, k162, n162⟩, -, X162, ⟨Lc162, hQ162, l162, y162, z162⟩, st162⟩ := X160.virtualBack hx (y := own_y16) (z := own_y16) hown59 (mvT hZ59 (own_g hw (i := 114) rfl)) (mvT hZ59 (own_g hw (i := 115) rfl)) (notFace_of_selects (args := #[]) (mvT hZ59 (own_g hw (i := 117) rfl))) (mvT hZ59 (own_g hw (i := 117) rfl)) (mvT hZ59 (own_g hw (i := 116) rfl)) (by decide) (backOf (W := 0) (own_rmog l Z a0 hw [] (op) (un) T105.heap n0 Z105 F107) hZ59 (own_g hw (i := 118) rfl) (own_g hw (i := 83) rfl) (by decide) (by decide)) q162a q162c (g := (mkF m 120 #[iv sx, iv fx, rv fi, rv un, iv sw, iv df, rv fi, rv un, rv pq, .val (.int 0), rv b0, rv op] [(.ref op)])) rfl (by rw [hml]; rfl) (Steps.refl _) (argsL := []) (rest := []) (lenOf own_pd___Ljava_lang_Object_ rfl) rfl (by show 2 * 0 + _ ≤ _; exact Nat.le_of_eq rfl) (hb hby at_120) (fun _ _ => ⟨rfl, e160, (by decide : 7 + 0 ≤ _), (by decide : 91 + 0 ≤ _)⟩)
      dsimp only [Pt.U, Pt.locs, Pt.cells, Pt.slots] at X162 l162 y162 z162 st162 hQ162
      subst l162 y162 z162
      obtain ⟨rfl, N162q, e162⟩ := hQ162
      have N162 := Fr.app N160 N162q
      refine own_S (mkF m 123 #[iv sx, iv fx, rv fi, rv un, iv sw, iv df, rv fi, rv un, rv pq, .val (.int 0), rv b0, rv op] [(.ref un)]) (fun _ k => st162.trans k) ?_
      refine own_S (mkF m 125 #[iv sx, iv fx, rv fi, rv un, iv sw, iv df, rv fi, rv un, rv pq, .val (.int 0), rv b0, rv op] [(.ref un), (.ref un)]) (fun _ k => XS.aload X162.here hx rfl (hb hby at_123) rfl rfl k) ?_
      have hc163 : un = un := rfl
      refine own_S (mkF m 128 #[iv sx, iv fx, rv fi, rv un, iv sw, iv df, rv fi, rv un, rv pq, .val (.int 0), rv b0, rv op] []) (fun _ k => acmp X162 hx rfl rfl rfl (pc0 := 125) (pc' := 128) (same := true) rfl (hb hby at_125) rfl (by simp [hc163]) (by decide) (by decide) k) ?_
      refine own_S (mkF m 129 #[iv sx, iv fx, rv fi, rv un, iv sw, iv df, rv fi, rv un, rv pq, .val (.int 0), rv b0, rv op] [(.int 1)]) (fun _ k => XS.iconst X162.here hx rfl (hb hby at_128) k) ?_
      refine own_S (mkF m 133 #[iv sx, iv fx, rv fi, rv un, iv sw, iv df, rv fi, rv un, rv pq, .val (.int 0), rv b0, rv op] [(.int 1)]) (fun _ k => XS.goto X162.here hx rfl (pc0 := 129) (pc' := 133) rfl (hb hby at_129) (by decide) (by decide) k) ?_
      exact own_retWN (vm₁ := T59.vm) X162 hS59 (show _ ≤ T162.heap.size by rw [e162]; exact hk105) hx hlk (t := .boolean) hret (by simp) (hb hby at_133) (by rw [e162]; exact ⟨rfl, N162, trivial⟩) (by decide) (by decide)
    · -- kk = 1
      subst q98_1
      refine own_S (mkF m 91 #[iv sx, iv fx, rv fi, rv un, iv sw, iv df, rv fi, rv un, rv pq, .val (.int 1), .unset, .unset] [(.int 1)]) (fun _ k => XS.iload X59.here hx rfl (hb hby at_89) rfl k) ?_
      obtain ⟨_, _, ⟨T164, L164, k164, n164⟩, -, X164, ⟨Lc164, hQ164, l164, y164, z164⟩, st164⟩ := Jvm.LawKit.callS X59 hx (y := own_y10) hown59 (mvT hZ59 (own_g hw (i := 69) rfl)) (mvT hZ59 (own_g hw (i := 70) rfl)) (mvT hZ59 (own_g hw (i := 71) rfl)) (mvT hZ59 (own_g hw (i := 72) rfl)) (by decide) (backOf (W := 0) (own_rmst1 l Z a0 hw [] (b1) T59.heap n0 Z59 F79) hZ59 (own_g hw (i := 72) rfl) (own_g hw (i := 71) rfl) (by decide) (by decide)) (g := (mkF m 91 #[iv sx, iv fx, rv fi, rv un, iv sw, iv df, rv fi, rv un, rv pq, .val (.int 1), .unset, .unset] [(.int 1)])) rfl (by rw [hml]; rfl) (argsL := [(.int 1)]) (rest := []) (lenOf own_pd__I_Lcom_example_purgatory_purgatory_model_QueueItemStatus_ rfl) rfl (by show 2 * 0 + _ ≤ _; exact Nat.le_of_eq rfl) (hb hby at_91) (fun _ _ => ⟨rfl, rfl, (by decide : 6 + 0 ≤ _), (by decide : 90 + 0 ≤ _)⟩)
      dsimp only [Pt.U, Pt.locs, Pt.cells, Pt.slots] at X164 l164 y164 z164 st164 hQ164
      subst l164 y164 z164
      obtain ⟨rfl, N164q, e164⟩ := hQ164
      have N164 := Fr.app N59 N164q
      refine own_S (mkF m 94 #[iv sx, iv fx, rv fi, rv un, iv sw, iv df, rv fi, rv un, rv pq, .val (.int 1), .unset, .unset] [(.ref b1)]) (fun _ k => st164 _ k) ?_
      refine own_S (mkF m 96 #[iv sx, iv fx, rv fi, rv un, iv sw, iv df, rv fi, rv un, rv pq, .val (.int 1), rv b1, .unset] []) (fun _ k => XS.astore X164.here hx rfl (hb hby at_94) rfl rfl (l' := #[iv sx, iv fx, rv fi, rv un, iv sw, iv df, rv fi, rv un, rv pq, .val (.int 1), rv b1, .unset]) rfl k) ?_
      refine own_S (mkF m 98 #[iv sx, iv fx, rv fi, rv un, iv sw, iv df, rv fi, rv un, rv pq, .val (.int 1), rv b1, .unset] [(.ref pq)]) (fun _ k => XS.aload X164.here hx rfl (hb hby at_96) rfl rfl k) ?_
      refine own_S (mkF m 100 #[iv sx, iv fx, rv fi, rv un, iv sw, iv df, rv fi, rv un, rv pq, .val (.int 1), rv b1, .unset] [(.ref b1), (.ref pq)]) (fun _ k => XS.aload X164.here hx rfl (hb hby at_98) rfl rfl k) ?_
      obtain ⟨cq165, kq165, q165a, q165b, q165c⟩ := isOf hZ59 e164 F60
      obtain ⟨_, _, ⟨T165, L165, k165, n165⟩, -, X165, ⟨Lc165, hQ165, l165, y165, z165⟩, st165⟩ := X164.virtualBack hx (y := own_y14) (z := own_y14) hown59 (mvT hZ59 (own_g hw (i := 76) rfl)) (mvT hZ59 (own_g hw (i := 77) rfl)) (notFace_of_selects (args := #[]) (mvT hZ59 (own_g hw (i := 79) rfl))) (mvT hZ59 (own_g hw (i := 79) rfl)) (mvT hZ59 (own_g hw (i := 78) rfl)) (by decide) (backOf (W := 0) (own_rmr3 l Z a0 hw [] (pq) (b1) (b0) (em) T59.heap n0 Z59 F80 F81 F73 F76 NE_b1_b0) hZ59 (own_g hw (i := 80) rfl) (own_g hw (i := 1) rfl) (by decide) (by decide)) q165a q165c (g := (mkF m 100 #[iv sx, iv fx, rv fi, rv un, iv sw, iv df, rv fi, rv un, rv pq, .val (.int 1), rv b1, .unset] [(.ref b1), (.ref pq)])) rfl (by rw [hml]; rfl) (Steps.refl _) (argsL := [(.ref b1)]) (rest := []) (lenOf own_pd__Lcom_example_purgatory_purgatory_model_QueueItemStatus__Ljava_util_Optional_ rfl) rfl (by show 2 * 0 + _ ≤ _; exact Nat.le_of_eq rfl) (hb hby at_100) (fun _ _ => ⟨rfl, e164, (by decide : 6 + 0 ≤ _), (by decide : 90 + 0 ≤ _)⟩)
      dsimp only [Pt.U, Pt.locs, Pt.cells, Pt.slots] at X165 l165 y165 z165 st165 hQ165
      subst l165 y165 z165
      obtain ⟨rfl, N165q, e165⟩ := hQ165
      have N165 := Fr.app N164 N165q
      refine own_S (mkF m 103 #[iv sx, iv fx, rv fi, rv un, iv sw, iv df, rv fi, rv un, rv pq, .val (.int 1), rv b1, .unset] [(.ref em)]) (fun _ k => st165.trans k) ?_
      refine own_S (mkF m 105 #[iv sx, iv fx, rv fi, rv un, iv sw, iv df, rv fi, rv un, rv pq, .val (.int 1), rv b1, rv em] []) (fun _ k => XS.astore X165.here hx rfl (hb hby at_103) rfl rfl (l' := #[iv sx, iv fx, rv fi, rv un, iv sw, iv df, rv fi, rv un, rv pq, .val (.int 1), rv b1, rv em]) rfl k) ?_
      refine own_S (mkF m 107 #[iv sx, iv fx, rv fi, rv un, iv sw, iv df, rv fi, rv un, rv pq, .val (.int 1), rv b1, rv em] [(.int 1)]) (fun _ k => XS.iload X165.here hx rfl (hb hby at_105) rfl k) ?_
      have hc166 : ¬ ((1 : Int32) = (0 : Int32)) := by decide
      refine own_S (mkF m 134 #[iv sx, iv fx, rv fi, rv un, iv sw, iv df, rv fi, rv un, rv pq, .val (.int 1), rv b1, rv em] []) (fun _ k => XS.ifYes X165.here hx rfl (pc0 := 107) (pc' := 134) rfl (hb hby at_107) rfl ((if0 _ _).trans (feq hc166).2) (by decide) (by decide) k) ?_
      refine own_S (mkF m 136 #[iv sx, iv fx, rv fi, rv un, iv sw, iv df, rv fi, rv un, rv pq, .val (.int 1), rv b1, rv em] [(.int 1)]) (fun _ k => XS.iload X165.here hx rfl (hb hby at_134) rfl k) ?_
      refine own_S (mkF m 137 #[iv sx, iv fx, rv fi, rv un, iv sw, iv df, rv fi, rv un, rv pq, .val (.int 1), rv b1, rv em] [(.int 1), (.int 1)]) (fun _ k => XS.iconst X165.here hx rfl (hb hby at_136) k) ?_
      have hc167 : (1 : Int32) = (1 : Int32) := by decide
      refine own_S (mkF m 140 #[iv sx, iv fx, rv fi, rv un, iv sw, iv df, rv fi, rv un, rv pq, .val (.int 1), rv b1, rv em] []) (fun _ k => XS.icmpNo X165.here hx rfl (hb hby at_137) rfl (teq hc167).2 k) ?_
      refine own_S (mkF m 142 #[iv sx, iv fx, rv fi, rv un, iv sw, iv df, rv fi, rv un, rv pq, .val (.int 1), rv b1, rv em] [(.ref em)]) (fun _ k => XS.aload X165.here hx rfl (hb hby at_140) rfl rfl k) ?_
      obtain ⟨cq168, kq168, q168a, q168b, q168c⟩ := isOf hZ59 e165 F74
      obtain ⟨_, _, ⟨T168, L168, k168, n168⟩, -, X168, ⟨Lc168, hQ168, l168, y168, z168⟩, st168⟩ := X165.virtualBack hx (y := own_y15) (z := own_y15) hown59 (mvT hZ59 (own_g hw (i := 109) rfl)) (mvT hZ59 (own_g hw (i := 110) rfl)) (notFace_of_selects (args := #[]) (mvT hZ59 (own_g hw (i := 112) rfl))) (mvT hZ59 (own_g hw (i := 112) rfl)) (mvT hZ59 (own_g hw (i := 111) rfl)) (by decide) (backOf (W := 0) (own_rmip0 l Z a0 hw [] (em) T59.heap n0 Z59 F75) hZ59 (own_g hw (i := 113) rfl) (own_g hw (i := 83) rfl) (by decide) (by decide)) q168a q168c (g := (mkF m 142 #[iv sx, iv fx, rv fi, rv un, iv sw, iv df, rv fi, rv un, rv pq, .val (.int 1), rv b1, rv em] [(.ref em)])) rfl (by rw [hml]; rfl) (Steps.refl _) (argsL := []) (rest := []) (lenOf own_pd___Z rfl) rfl (by show 2 * 0 + _ ≤ _; exact Nat.le_of_eq rfl) (hb hby at_142) (fun _ _ => ⟨rfl, e165, (by decide : 6 + 0 ≤ _), (by decide : 90 + 0 ≤ _)⟩)
      dsimp only [Pt.U, Pt.locs, Pt.cells, Pt.slots] at X168 l168 y168 z168 st168 hQ168
      subst l168 y168 z168
      obtain ⟨rfl, N168q, e168⟩ := hQ168
      have N168 := Fr.app N165 N168q
      refine own_S (mkF m 145 #[iv sx, iv fx, rv fi, rv un, iv sw, iv df, rv fi, rv un, rv pq, .val (.int 1), rv b1, rv em] [(.int 0)]) (fun _ k => st168.trans k) ?_
      have hc169 : (0 : Int32) = (0 : Int32) := by decide
      refine own_S (mkF m 148 #[iv sx, iv fx, rv fi, rv un, iv sw, iv df, rv fi, rv un, rv pq, .val (.int 1), rv b1, rv em] []) (fun _ k => XS.ifNo X168.here hx rfl (hb hby at_145) rfl ((if0 _ _).trans (teq hc169).2) k) ?_
      refine own_S (mkF m 149 #[iv sx, iv fx, rv fi, rv un, iv sw, iv df, rv fi, rv un, rv pq, .val (.int 1), rv b1, rv em] [(.int 1)]) (fun _ k => XS.iconst X168.here hx rfl (hb hby at_148) k) ?_
      refine own_S (mkF m 153 #[iv sx, iv fx, rv fi, rv un, iv sw, iv df, rv fi, rv un, rv pq, .val (.int 1), rv b1, rv em] [(.int 1)]) (fun _ k => XS.goto X168.here hx rfl (pc0 := 149) (pc' := 153) rfl (hb hby at_149) (by decide) (by decide) k) ?_
      exact own_retWN (vm₁ := T59.vm) X168 hS59 (show _ ≤ T168.heap.size by rw [e168]; exact (Nat.le_refl _)) hx hlk (t := .boolean) hret (by simp) (hb hby at_153) (by rw [e168]; exact ⟨rfl, N168, trivial⟩) (by decide) (by decide)
    · -- kk = 2
      subst q99_2
      refine own_S (mkF m 91 #[iv sx, iv fx, rv fi, rv un, iv sw, iv df, rv fi, rv un, rv pq, .val (.int 2), .unset, .unset] [(.int 2)]) (fun _ k => XS.iload X59.here hx rfl (hb hby at_89) rfl k) ?_
      obtain ⟨_, _, ⟨T170, L170, k170, n170⟩, -, X170, ⟨Lc170, hQ170, l170, y170, z170⟩, st170⟩ := Jvm.LawKit.callS X59 hx (y := own_y10) hown59 (mvT hZ59 (own_g hw (i := 69) rfl)) (mvT hZ59 (own_g hw (i := 70) rfl)) (mvT hZ59 (own_g hw (i := 71) rfl)) (mvT hZ59 (own_g hw (i := 72) rfl)) (by decide) (backOf (W := 0) (own_rmst2 l Z a0 hw [] (b2) T59.heap n0 Z59 F82) hZ59 (own_g hw (i := 72) rfl) (own_g hw (i := 71) rfl) (by decide) (by decide)) (g := (mkF m 91 #[iv sx, iv fx, rv fi, rv un, iv sw, iv df, rv fi, rv un, rv pq, .val (.int 2), .unset, .unset] [(.int 2)])) rfl (by rw [hml]; rfl) (argsL := [(.int 2)]) (rest := []) (lenOf own_pd__I_Lcom_example_purgatory_purgatory_model_QueueItemStatus_ rfl) rfl (by show 2 * 0 + _ ≤ _; exact Nat.le_of_eq rfl) (hb hby at_91) (fun _ _ => ⟨rfl, rfl, (by decide : 6 + 0 ≤ _), (by decide : 90 + 0 ≤ _)⟩)
      dsimp only [Pt.U, Pt.locs, Pt.cells, Pt.slots] at X170 l170 y170 z170 st170 hQ170
      subst l170 y170 z170
      obtain ⟨rfl, N170q, e170⟩ := hQ170
      have N170 := Fr.app N59 N170q
      refine own_S (mkF m 94 #[iv sx, iv fx, rv fi, rv un, iv sw, iv df, rv fi, rv un, rv pq, .val (.int 2), .unset, .unset] [(.ref b2)]) (fun _ k => st170 _ k) ?_
      refine own_S (mkF m 96 #[iv sx, iv fx, rv fi, rv un, iv sw, iv df, rv fi, rv un, rv pq, .val (.int 2), rv b2, .unset] []) (fun _ k => XS.astore X170.here hx rfl (hb hby at_94) rfl rfl (l' := #[iv sx, iv fx, rv fi, rv un, iv sw, iv df, rv fi, rv un, rv pq, .val (.int 2), rv b2, .unset]) rfl k) ?_
      refine own_S (mkF m 98 #[iv sx, iv fx, rv fi, rv un, iv sw, iv df, rv fi, rv un, rv pq, .val (.int 2), rv b2, .unset] [(.ref pq)]) (fun _ k => XS.aload X170.here hx rfl (hb hby at_96) rfl rfl k) ?_
      refine own_S (mkF m 100 #[iv sx, iv fx, rv fi, rv un, iv sw, iv df, rv fi, rv un, rv pq, .val (.int 2), rv b2, .unset] [(.ref b2), (.ref pq)]) (fun _ k => XS.aload X170.here hx rfl (hb hby at_98) rfl rfl k) ?_
      obtain ⟨cq171, kq171, q171a, q171b, q171c⟩ := isOf hZ59 e170 F60
      obtain ⟨_, _, ⟨T171, L171, k171, n171⟩, -, X171, ⟨Lc171, hQ171, l171, y171, z171⟩, st171⟩ := X170.virtualBack hx (y := own_y14) (z := own_y14) hown59 (mvT hZ59 (own_g hw (i := 76) rfl)) (mvT hZ59 (own_g hw (i := 77) rfl)) (notFace_of_selects (args := #[]) (mvT hZ59 (own_g hw (i := 79) rfl))) (mvT hZ59 (own_g hw (i := 79) rfl)) (mvT hZ59 (own_g hw (i := 78) rfl)) (by decide) (backOf (W := 0) (own_rmr1 l Z a0 hw [] (pq) (b2) (fi) (em) T59.heap n0 Z59 F83 F84 F61 F73) hZ59 (own_g hw (i := 80) rfl) (own_g hw (i := 1) rfl) (by decide) (by decide)) q171a q171c (g := (mkF m 100 #[iv sx, iv fx, rv fi, rv un, iv sw, iv df, rv fi, rv un, rv pq, .val (.int 2), rv b2, .unset] [(.ref b2), (.ref pq)])) rfl (by rw [hml]; rfl) (Steps.refl _) (argsL := [(.ref b2)]) (rest := []) (lenOf own_pd__Lcom_example_purgatory_purgatory_model_QueueItemStatus__Ljava_util_Optional_ rfl) rfl (by show 2 * 0 + _ ≤ _; exact Nat.le_of_eq rfl) (hb hby at_100) (fun _ _ => ⟨rfl, e170, (by decide : 6 + 1 ≤ _), (by decide : 90 + 1 ≤ _)⟩)
      dsimp only [Pt.U, Pt.locs, Pt.cells, Pt.slots] at X171 l171 y171 z171 st171 hQ171
      subst l171 y171 z171
      obtain ⟨op, rfl, N171q, K171q, F172, F173, pp174⟩ := hQ171
      have N171 := Fr.app N170 N171q
      refine own_S (mkF m 103 #[iv sx, iv fx, rv fi, rv un, iv sw, iv df, rv fi, rv un, rv pq, .val (.int 2), rv b2, .unset] [(.ref op)]) (fun _ k => st171.trans k) ?_
      have n175 : qd ≠ op := Nat.ne_of_lt (Nat.lt_of_lt_of_le F64.lt pp174)
      have n176 : fi ≠ op := Nat.ne_of_lt (Nat.lt_of_lt_of_le F67.lt pp174)
      have n177 : un ≠ op := Nat.ne_of_lt (Nat.lt_of_lt_of_le F68.lt pp174)
      have n178 : dl ≠ op := Nat.ne_of_lt (Nat.lt_of_lt_of_le F71.lt pp174)
      have n179 : em ≠ op := Nat.ne_of_lt (Nat.lt_of_lt_of_le F74.lt pp174)
      have n180 : b0 ≠ op := Nat.ne_of_lt (Nat.lt_of_lt_of_le F77.lt pp174)
      have n181 : b1 ≠ op := Nat.ne_of_lt (Nat.lt_of_lt_of_le F80.lt pp174)
      have n182 : b2 ≠ op := Nat.ne_of_lt (Nat.lt_of_lt_of_le F83.lt pp174)
      have n183 : b3 ≠ op := Nat.ne_of_lt (Nat.lt_of_lt_of_le F86.lt pp174)
      have n184 : b4 ≠ op := Nat.ne_of_lt (Nat.lt_of_lt_of_le F89.lt pp174)
      have n185 : b5 ≠ op := Nat.ne_of_lt (Nat.lt_of_lt_of_le F92.lt pp174)
      have n186 : b6 ≠ op := Nat.ne_of_lt (Nat.lt_of_lt_of_le F95.lt pp174)
      have n187 : pq ≠ op := Nat.ne_of_lt (Nat.lt_of_lt_of_le F60.lt pp174)
      have ge_op : n0 ≤ op := Nat.le_trans Z59 pp174
      have F188 := F63.ext ⟨K171q.1, fun a c q => K171q.2.1 a c q nin0⟩
      have F189 := F64.keep K171q
      have F190 := F65.keep K171q nin0
      have F191 := F66.keep K171q nin0
      have F192 := F67.keep K171q
      have F193 := F68.keep K171q
      have F194 := F69.keep K171q nin0
      have F195 := F70.keep K171q nin0
      have F196 := F71.keep K171q
      have F197 := F72.keep K171q nin0
      have F198 := F73.ext ⟨K171q.1, fun a c q => K171q.2.1 a c q nin0⟩
      have F199 := F74.keep K171q
      have F200 := F75.keep K171q nin0
      have F201 := F76.ext ⟨K171q.1, fun a c q => K171q.2.1 a c q nin0⟩
      have F202 := F77.keep K171q
      have F203 := F78.keep K171q nin0
      have F204 := F79.ext ⟨K171q.1, fun a c q => K171q.2.1 a c q nin0⟩
      have F205 := F80.keep K171q
      have F206 := F81.keep K171q nin0
      have F207 := F82.ext ⟨K171q.1, fun a c q => K171q.2.1 a c q nin0⟩
      have F208 := F83.keep K171q
      have F209 := F84.keep K171q nin0
      have F210 := F85.ext ⟨K171q.1, fun a c q => K171q.2.1 a c q nin0⟩
      have F211 := F86.keep K171q
      have F212 := F87.keep K171q nin0
      have F213 := F88.ext ⟨K171q.1, fun a c q => K171q.2.1 a c q nin0⟩
      have F214 := F89.keep K171q
      have F215 := F90.keep K171q nin0
      have F216 := F91.ext ⟨K171q.1, fun a c q => K171q.2.1 a c q nin0⟩
      have F217 := F92.keep K171q
      have F218 := F93.keep K171q nin0
      have F219 := F94.ext ⟨K171q.1, fun a c q => K171q.2.1 a c q nin0⟩
      have F220 := F95.keep K171q
      have F221 := F96.keep K171q nin0
      have F222 := F60.keep K171q
      have F223 := F61.keep K171q nin0
      have F224 := F62.keep K171q nin0
      have Z171 : n0 ≤ T171.heap.size := Nat.le_trans Z59 K171q.1
      have hk171 : T59.heap.size ≤ T171.heap.size := Nat.le_trans (Nat.le_refl T59.heap.size) K171q.1
      refine own_S (mkF m 105 #[iv sx, iv fx, rv fi, rv un, iv sw, iv df, rv fi, rv un, rv pq, .val (.int 2), rv b2, rv op] []) (fun _ k => XS.astore X171.here hx rfl (hb hby at_103) rfl rfl (l' := #[iv sx, iv fx, rv fi, rv un, iv sw, iv df, rv fi, rv un, rv pq, .val (.int 2), rv b2, rv op]) rfl k) ?_
      refine own_S (mkF m 107 #[iv sx, iv fx, rv fi, rv un, iv sw, iv df, rv fi, rv un, rv pq, .val (.int 2), rv b2, rv op] [(.int 2)]) (fun _ k => XS.iload X171.here hx rfl (hb hby at_105) rfl k) ?_
      have hc225 : ¬ ((2 : Int32) = (0 : Int32)) := by decide
      refine own_S (mkF m 134 #[iv sx, iv fx, rv fi, rv un, iv sw, iv df, rv fi, rv un, rv pq, .val (.int 2), rv b2, rv op] []) (fun _ k => XS.ifYes X171.here hx rfl (pc0 := 107) (pc' := 134) rfl (hb hby at_107) rfl ((if0 _ _).trans (feq hc225).2) (by decide) (by decide) k) ?_
      refine own_S (mkF m 136 #[iv sx, iv fx, rv fi, rv un, iv sw, iv df, rv fi, rv un, rv pq, .val (.int 2), rv b2, rv op] [(.int 2)]) (fun _ k => XS.iload X171.here hx rfl (hb hby at_134) rfl k) ?_
      refine own_S (mkF m 137 #[iv sx, iv fx, rv fi, rv un, iv sw, iv df, rv fi, rv un, rv pq, .val (.int 2), rv b2, rv op] [(.int 1), (.int 2)]) (fun _ k => XS.iconst X171.here hx rfl (hb hby at_136) k) ?_
      have hc226 : ¬ ((2 : Int32) = (1 : Int32)) := by decide
      refine own_S (mkF m 154 #[iv sx, iv fx, rv fi, rv un, iv sw, iv df, rv fi, rv un, rv pq, .val (.int 2), rv b2, rv op] []) (fun _ k => XS.icmpYes X171.here hx rfl (pc0 := 137) (pc' := 154) rfl (hb hby at_137) rfl (feq hc226).2 (by decide) (by decide) k) ?_
      refine own_S (mkF m 156 #[iv sx, iv fx, rv fi, rv un, iv sw, iv df, rv fi, rv un, rv pq, .val (.int 2), rv b2, rv op] [(.ref op)]) (fun _ k => XS.aload X171.here hx rfl (hb hby at_154) rfl rfl k) ?_
      obtain ⟨cq227, kq227, q227a, q227b, q227c⟩ := isOf hZ59 rfl F172
      obtain ⟨_, _, ⟨T227, L227, k227, n227⟩, -, X227, ⟨Lc227, hQ227, l227, y227, z227⟩, st227⟩ := X171.virtualBack hx (y := own_y15) (z := own_y15) hown59 (mvT hZ59 (own_g hw (i := 109) rfl)) (mvT hZ59 (own_g hw (i := 110) rfl)) (notFace_of_selects (args := #[]) (mvT hZ59 (own_g hw (i := 112) rfl))) (mvT hZ59 (own_g hw (i := 112) rfl)) (mvT hZ59 (own_g hw (i := 111) rfl)) (by decide) (backOf (W := 0) (own_rmip1 l Z a0 hw [] (op) (fi) T171.heap n0 Z171 F173) hZ59 (own_g hw (i := 113) rfl) (own_g hw (i := 83) rfl) (by decide) (by decide)) q227a q227c (g := (mkF m 156 #[iv sx, iv fx, rv fi, rv un, iv sw, iv df, rv fi, rv un, rv pq, .val (.int 2), rv b2, rv op] [(.ref op)])) rfl (by rw [hml]; rfl) (Steps.refl _) (argsL := []) (rest := []) (lenOf own_pd___Z rfl) rfl (by show 2 * 0 + _ ≤ _; exact Nat.le_of_eq rfl) (hb hby at_156) (fun _ _ => ⟨rfl, rfl, (by decide : 7 + 0 ≤ _), (by decide : 91 + 0 ≤ _)⟩)
      dsimp only [Pt.U, Pt.locs, Pt.cells, Pt.slots] at X227 l227 y227 z227 st227 hQ227
      subst l227 y227 z227
      obtain ⟨rfl, N227q, e227⟩ := hQ227
      have N227 := Fr.app N171 N227q
      refine own_S (mkF m 159 #[iv sx, iv fx, rv fi, rv un, iv sw, iv df, rv fi, rv un, rv pq, .val (.int 2), rv b2, rv op] [(.int 1)]) (fun _ k => st227.trans k) ?_
      have hc228 : ¬ ((1 : Int32) = (0 : Int32)) := by decide
      refine own_S (mkF m 162 #[iv sx, iv fx, rv fi, rv un, iv sw, iv df, rv fi, rv un, rv pq, .val (.int 2), rv b2, rv op] []) (fun _ k => XS.ifNo X227.here hx rfl (hb hby at_159) rfl ((if0 _ _).trans (feq hc228).1) k) ?_
      refine own_S (mkF m 164 #[iv sx, iv fx, rv fi, rv un, iv sw, iv df, rv fi, rv un, rv pq, .val (.int 2), rv b2, rv op] [(.ref op)]) (fun _ k => XS.aload X227.here hx rfl (hb hby at_162) rfl rfl k) ?_
      obtain ⟨cq229, kq229, q229a, q229b, q229c⟩ := isOf hZ59 e227 F172
      obtain ⟨_, _, ⟨T229, L229, k229, n229⟩, -, X229, ⟨Lc229, hQ229, l229, y229, z229⟩, st229⟩ := X227.virtualBack hx (y := own_y16) (z := own_y16) hown59 (mvT hZ59 (own_g hw (i := 114) rfl)) (mvT hZ59 (own_g hw (i := 115) rfl)) (notFace_of_selects (args := #[]) (mvT hZ59 (own_g hw (i := 117) rfl))) (mvT hZ59 (own_g hw (i := 117) rfl)) (mvT hZ59 (own_g hw (i := 116) rfl)) (by decide) (backOf (W := 0) (own_rmog l Z a0 hw [] (op) (fi) T171.heap n0 Z171 F173) hZ59 (own_g hw (i := 118) rfl) (own_g hw (i := 83) rfl) (by decide) (by decide)) q229a q229c (g := (mkF m 164 #[iv sx, iv fx, rv fi, rv un, iv sw, iv df, rv fi, rv un, rv pq, .val (.int 2), rv b2, rv op] [(.ref op)])) rfl (by rw [hml]; rfl) (Steps.refl _) (argsL := []) (rest := []) (lenOf own_pd___Ljava_lang_Object_ rfl) rfl (by show 2 * 0 + _ ≤ _; exact Nat.le_of_eq rfl) (hb hby at_164) (fun _ _ => ⟨rfl, e227, (by decide : 7 + 0 ≤ _), (by decide : 91 + 0 ≤ _)⟩)
      dsimp only [Pt.U, Pt.locs, Pt.cells, Pt.slots] at X229 l229 y229 z229 st229 hQ229
      subst l229 y229 z229
      obtain ⟨rfl, N229q, e229⟩ := hQ229
      have N229 := Fr.app N227 N229q
      refine own_S (mkF m 167 #[iv sx, iv fx, rv fi, rv un, iv sw, iv df, rv fi, rv un, rv pq, .val (.int 2), rv b2, rv op] [(.ref fi)]) (fun _ k => st229.trans k) ?_
      refine own_S (mkF m 169 #[iv sx, iv fx, rv fi, rv un, iv sw, iv df, rv fi, rv un, rv pq, .val (.int 2), rv b2, rv op] [(.ref fi), (.ref fi)]) (fun _ k => XS.aload X229.here hx rfl (hb hby at_167) rfl rfl k) ?_
      have hc230 : fi = fi := rfl
      refine own_S (mkF m 172 #[iv sx, iv fx, rv fi, rv un, iv sw, iv df, rv fi, rv un, rv pq, .val (.int 2), rv b2, rv op] []) (fun _ k => acmp X229 hx rfl rfl rfl (pc0 := 169) (pc' := 172) (same := true) rfl (hb hby at_169) rfl (by simp [hc230]) (by decide) (by decide) k) ?_
      refine own_S (mkF m 173 #[iv sx, iv fx, rv fi, rv un, iv sw, iv df, rv fi, rv un, rv pq, .val (.int 2), rv b2, rv op] [(.int 1)]) (fun _ k => XS.iconst X229.here hx rfl (hb hby at_172) k) ?_
      refine own_S (mkF m 177 #[iv sx, iv fx, rv fi, rv un, iv sw, iv df, rv fi, rv un, rv pq, .val (.int 2), rv b2, rv op] [(.int 1)]) (fun _ k => XS.goto X229.here hx rfl (pc0 := 173) (pc' := 177) rfl (hb hby at_173) (by decide) (by decide) k) ?_
      exact own_retWN (vm₁ := T59.vm) X229 hS59 (show _ ≤ T229.heap.size by rw [e229]; exact hk171) hx hlk (t := .boolean) hret (by simp) (hb hby at_177) (by rw [e229]; exact ⟨rfl, N229, trivial⟩) (by decide) (by decide)
    · -- kk = 3
      subst q100_3
      refine own_S (mkF m 91 #[iv sx, iv fx, rv fi, rv un, iv sw, iv df, rv fi, rv un, rv pq, .val (.int 3), .unset, .unset] [(.int 3)]) (fun _ k => XS.iload X59.here hx rfl (hb hby at_89) rfl k) ?_
      obtain ⟨_, _, ⟨T231, L231, k231, n231⟩, -, X231, ⟨Lc231, hQ231, l231, y231, z231⟩, st231⟩ := Jvm.LawKit.callS X59 hx (y := own_y10) hown59 (mvT hZ59 (own_g hw (i := 69) rfl)) (mvT hZ59 (own_g hw (i := 70) rfl)) (mvT hZ59 (own_g hw (i := 71) rfl)) (mvT hZ59 (own_g hw (i := 72) rfl)) (by decide) (backOf (W := 0) (own_rmst3 l Z a0 hw [] (b3) T59.heap n0 Z59 F85) hZ59 (own_g hw (i := 72) rfl) (own_g hw (i := 71) rfl) (by decide) (by decide)) (g := (mkF m 91 #[iv sx, iv fx, rv fi, rv un, iv sw, iv df, rv fi, rv un, rv pq, .val (.int 3), .unset, .unset] [(.int 3)])) rfl (by rw [hml]; rfl) (argsL := [(.int 3)]) (rest := []) (lenOf own_pd__I_Lcom_example_purgatory_purgatory_model_QueueItemStatus_ rfl) rfl (by show 2 * 0 + _ ≤ _; exact Nat.le_of_eq rfl) (hb hby at_91) (fun _ _ => ⟨rfl, rfl, (by decide : 6 + 0 ≤ _), (by decide : 90 + 0 ≤ _)⟩)
      dsimp only [Pt.U, Pt.locs, Pt.cells, Pt.slots] at X231 l231 y231 z231 st231 hQ231
      subst l231 y231 z231
      obtain ⟨rfl, N231q, e231⟩ := hQ231
      have N231 := Fr.app N59 N231q
      refine own_S (mkF m 94 #[iv sx, iv fx, rv fi, rv un, iv sw, iv df, rv fi, rv un, rv pq, .val (.int 3), .unset, .unset] [(.ref b3)]) (fun _ k => st231 _ k) ?_
      refine own_S (mkF m 96 #[iv sx, iv fx, rv fi, rv un, iv sw, iv df, rv fi, rv un, rv pq, .val (.int 3), rv b3, .unset] []) (fun _ k => XS.astore X231.here hx rfl (hb hby at_94) rfl rfl (l' := #[iv sx, iv fx, rv fi, rv un, iv sw, iv df, rv fi, rv un, rv pq, .val (.int 3), rv b3, .unset]) rfl k) ?_
      refine own_S (mkF m 98 #[iv sx, iv fx, rv fi, rv un, iv sw, iv df, rv fi, rv un, rv pq, .val (.int 3), rv b3, .unset] [(.ref pq)]) (fun _ k => XS.aload X231.here hx rfl (hb hby at_96) rfl rfl k) ?_
      refine own_S (mkF m 100 #[iv sx, iv fx, rv fi, rv un, iv sw, iv df, rv fi, rv un, rv pq, .val (.int 3), rv b3, .unset] [(.ref b3), (.ref pq)]) (fun _ k => XS.aload X231.here hx rfl (hb hby at_98) rfl rfl k) ?_
      obtain ⟨cq232, kq232, q232a, q232b, q232c⟩ := isOf hZ59 e231 F60
      obtain ⟨_, _, ⟨T232, L232, k232, n232⟩, -, X232, ⟨Lc232, hQ232, l232, y232, z232⟩, st232⟩ := X231.virtualBack hx (y := own_y14) (z := own_y14) hown59 (mvT hZ59 (own_g hw (i := 76) rfl)) (mvT hZ59 (own_g hw (i := 77) rfl)) (notFace_of_selects (args := #[]) (mvT hZ59 (own_g hw (i := 79) rfl))) (mvT hZ59 (own_g hw (i := 79) rfl)) (mvT hZ59 (own_g hw (i := 78) rfl)) (by decide) (backOf (W := 0) (own_rmr1 l Z a0 hw [] (pq) (b3) (fi) (em) T59.heap n0 Z59 F86 F87 F61 F73) hZ59 (own_g hw (i := 80) rfl) (own_g hw (i := 1) rfl) (by decide) (by decide)) q232a q232c (g := (mkF m 100 #[iv sx, iv fx, rv fi, rv un, iv sw, iv df, rv fi, rv un, rv pq, .val (.int 3), rv b3, .unset] [(.ref b3), (.ref pq)])) rfl (by rw [hml]; rfl) (Steps.refl _) (argsL := [(.ref b3)]) (rest := []) (lenOf own_pd__Lcom_example_purgatory_purgatory_model_QueueItemStatus__Ljava_util_Optional_ rfl) rfl (by show 2 * 0 + _ ≤ _; exact Nat.le_of_eq rfl) (hb hby at_100) (fun _ _ => ⟨rfl, e231, (by decide : 6 + 1 ≤ _), (by decide : 90 + 1 ≤ _)⟩)
      dsimp only [Pt.U, Pt.locs, Pt.cells, Pt.slots] at X232 l232 y232 z232 st232 hQ232
      subst l232 y232 z232
      obtain ⟨op, rfl, N232q, K232q, F233, F234, pp235⟩ := hQ232
      have N232 := Fr.app N231 N232q
      refine own_S (mkF m 103 #[iv sx, iv fx, rv fi, rv un, iv sw, iv df, rv fi, rv un, rv pq, .val (.int 3), rv b3, .unset] [(.ref op)]) (fun _ k => st232.trans k) ?_
      have n236 : qd ≠ op := Nat.ne_of_lt (Nat.lt_of_lt_of_le F64.lt pp235)
      have n237 : fi ≠ op := Nat.ne_of_lt (Nat.lt_of_lt_of_le F67.lt pp235)
      have n238 : un ≠ op := Nat.ne_of_lt (Nat.lt_of_lt_of_le F68.lt pp235)
      have n239 : dl ≠ op := Nat.ne_of_lt (Nat.lt_of_lt_of_le F71.lt pp235)
      have n240 : em ≠ op := Nat.ne_of_lt (Nat.lt_of_lt_of_le F74.lt pp235)
      have n241 : b0 ≠ op := Nat.ne_of_lt (Nat.lt_of_lt_of_le F77.lt pp235)
      have n242 : b1 ≠ op := Nat.ne_of_lt (Nat.lt_of_lt_of_le F80.lt pp235)
      have n243 : b2 ≠ op := Nat.ne_of_lt (Nat.lt_of_lt_of_le F83.lt pp235)
      have n244 : b3 ≠ op := Nat.ne_of_lt (Nat.lt_of_lt_of_le F86.lt pp235)
      have n245 : b4 ≠ op := Nat.ne_of_lt (Nat.lt_of_lt_of_le F89.lt pp235)
      have n246 : b5 ≠ op := Nat.ne_of_lt (Nat.lt_of_lt_of_le F92.lt pp235)
      have n247 : b6 ≠ op := Nat.ne_of_lt (Nat.lt_of_lt_of_le F95.lt pp235)
      have n248 : pq ≠ op := Nat.ne_of_lt (Nat.lt_of_lt_of_le F60.lt pp235)
      have ge_op : n0 ≤ op := Nat.le_trans Z59 pp235
      have F249 := F63.ext ⟨K232q.1, fun a c q => K232q.2.1 a c q nin0⟩
      have F250 := F64.keep K232q
      have F251 := F65.keep K232q nin0
      have F252 := F66.keep K232q nin0
      have F253 := F67.keep K232q
      have F254 := F68.keep K232q
      have F255 := F69.keep K232q nin0
      have F256 := F70.keep K232q nin0
      have F257 := F71.keep K232q
      have F258 := F72.keep K232q nin0
      have F259 := F73.ext ⟨K232q.1, fun a c q => K232q.2.1 a c q nin0⟩
      have F260 := F74.keep K232q
      have F261 := F75.keep K232q nin0
      have F262 := F76.ext ⟨K232q.1, fun a c q => K232q.2.1 a c q nin0⟩
      have F263 := F77.keep K232q
      have F264 := F78.keep K232q nin0
      have F265 := F79.ext ⟨K232q.1, fun a c q => K232q.2.1 a c q nin0⟩
      have F266 := F80.keep K232q
      have F267 := F81.keep K232q nin0
      have F268 := F82.ext ⟨K232q.1, fun a c q => K232q.2.1 a c q nin0⟩
      have F269 := F83.keep K232q
      have F270 := F84.keep K232q nin0
      have F271 := F85.ext ⟨K232q.1, fun a c q => K232q.2.1 a c q nin0⟩
      have F272 := F86.keep K232q
      have F273 := F87.keep K232q nin0
      have F274 := F88.ext ⟨K232q.1, fun a c q => K232q.2.1 a c q nin0⟩
      have F275 := F89.keep K232q
      have F276 := F90.keep K232q nin0
      have F277 := F91.ext ⟨K232q.1, fun a c q => K232q.2.1 a c q nin0⟩
      have F278 := F92.keep K232q
      have F279 := F93.keep K232q nin0
      have F280 := F94.ext ⟨K232q.1, fun a c q => K232q.2.1 a c q nin0⟩
      have F281 := F95.keep K232q
      have F282 := F96.keep K232q nin0
      have F283 := F60.keep K232q
      have F284 := F61.keep K232q nin0
      have F285 := F62.keep K232q nin0
      have Z232 : n0 ≤ T232.heap.size := Nat.le_trans Z59 K232q.1
      have hk232 : T59.heap.size ≤ T232.heap.size := Nat.le_trans (Nat.le_refl T59.heap.size) K232q.1
      refine own_S (mkF m 105 #[iv sx, iv fx, rv fi, rv un, iv sw, iv df, rv fi, rv un, rv pq, .val (.int 3), rv b3, rv op] []) (fun _ k => XS.astore X232.here hx rfl (hb hby at_103) rfl rfl (l' := #[iv sx, iv fx, rv fi, rv un, iv sw, iv df, rv fi, rv un, rv pq, .val (.int 3), rv b3, rv op]) rfl k) ?_
      refine own_S (mkF m 107 #[iv sx, iv fx, rv fi, rv un, iv sw, iv df, rv fi, rv un, rv pq, .val (.int 3), rv b3, rv op] [(.int 3)]) (fun _ k => XS.iload X232.here hx rfl (hb hby at_105) rfl k) ?_
      have hc286 : ¬ ((3 : Int32) = (0 : Int32)) := by decide
      refine own_S (mkF m 134 #[iv sx, iv fx, rv fi, rv un, iv sw, iv df, rv fi, rv un, rv pq, .val (.int 3), rv b3, rv op] []) (fun _ k => XS.ifYes X232.here hx rfl (pc0 := 107) (pc' := 134) rfl (hb hby at_107) rfl ((if0 _ _).trans (feq hc286).2) (by decide) (by decide) k) ?_
      refine own_S (mkF m 136 #[iv sx, iv fx, rv fi, rv un, iv sw, iv df, rv fi, rv un, rv pq, .val (.int 3), rv b3, rv op] [(.int 3)]) (fun _ k => XS.iload X232.here hx rfl (hb hby at_134) rfl k) ?_
      refine own_S (mkF m 137 #[iv sx, iv fx, rv fi, rv un, iv sw, iv df, rv fi, rv un, rv pq, .val (.int 3), rv b3, rv op] [(.int 1), (.int 3)]) (fun _ k => XS.iconst X232.here hx rfl (hb hby at_136) k) ?_
      have hc287 : ¬ ((3 : Int32) = (1 : Int32)) := by decide
      refine own_S (mkF m 154 #[iv sx, iv fx, rv fi, rv un, iv sw, iv df, rv fi, rv un, rv pq, .val (.int 3), rv b3, rv op] []) (fun _ k => XS.icmpYes X232.here hx rfl (pc0 := 137) (pc' := 154) rfl (hb hby at_137) rfl (feq hc287).2 (by decide) (by decide) k) ?_
      refine own_S (mkF m 156 #[iv sx, iv fx, rv fi, rv un, iv sw, iv df, rv fi, rv un, rv pq, .val (.int 3), rv b3, rv op] [(.ref op)]) (fun _ k => XS.aload X232.here hx rfl (hb hby at_154) rfl rfl k) ?_
      obtain ⟨cq288, kq288, q288a, q288b, q288c⟩ := isOf hZ59 rfl F233
      obtain ⟨_, _, ⟨T288, L288, k288, n288⟩, -, X288, ⟨Lc288, hQ288, l288, y288, z288⟩, st288⟩ := X232.virtualBack hx (y := own_y15) (z := own_y15) hown59 (mvT hZ59 (own_g hw (i := 109) rfl)) (mvT hZ59 (own_g hw (i := 110) rfl)) (notFace_of_selects (args := #[]) (mvT hZ59 (own_g hw (i := 112) rfl))) (mvT hZ59 (own_g hw (i := 112) rfl)) (mvT hZ59 (own_g hw (i := 111) rfl)) (by decide) (backOf (W := 0) (own_rmip1 l Z a0 hw [] (op) (fi) T232.heap n0 Z232 F234) hZ59 (own_g hw (i := 113) rfl) (own_g hw (i := 83) rfl) (by decide) (by decide)) q288a q288c (g := (mkF m 156 #[iv sx, iv fx, rv fi, rv un, iv sw, iv df, rv fi, rv un, rv pq, .val (.int 3), rv b3, rv op] [(.ref op)])) rfl (by rw [hml]; rfl) (Steps.refl _) (argsL := []) (rest := []) (lenOf own_pd___Z rfl) rfl (by show 2 * 0 + _ ≤ _; exact Nat.le_of_eq rfl) (hb hby at_156) (fun _ _ => ⟨rfl, rfl, (by decide : 7 + 0 ≤ _), (by decide : 91 + 0 ≤ _)⟩)
      dsimp only [Pt.U, Pt.locs, Pt.cells, Pt.slots] at X288 l288 y288 z288 st288 hQ288
      subst l288 y288 z288
      obtain ⟨rfl, N288q, e288⟩ := hQ288
      have N288 := Fr.app N232 N288q
      refine own_S (mkF m 159 #[iv sx, iv fx, rv fi, rv un, iv sw, iv df, rv fi, rv un, rv pq, .val (.int 3), rv b3, rv op] [(.int 1)]) (fun _ k => st288.trans k) ?_
      have hc289 : ¬ ((1 : Int32) = (0 : Int32)) := by decide
      refine own_S (mkF m 162 #[iv sx, iv fx, rv fi, rv un, iv sw, iv df, rv fi, rv un, rv pq, .val (.int 3), rv b3, rv op] []) (fun _ k => XS.ifNo X288.here hx rfl (hb hby at_159) rfl ((if0 _ _).trans (feq hc289).1) k) ?_
      refine own_S (mkF m 164 #[iv sx, iv fx, rv fi, rv un, iv sw, iv df, rv fi, rv un, rv pq, .val (.int 3), rv b3, rv op] [(.ref op)]) (fun _ k => XS.aload X288.here hx rfl (hb hby at_162) rfl rfl k) ?_
      obtain ⟨cq290, kq290, q290a, q290b, q290c⟩ := isOf hZ59 e288 F233
      obtain ⟨_, _, ⟨T290, L290, k290, n290⟩, -, X290, ⟨Lc290, hQ290, l290, y290, z290⟩, st290⟩ := X288.virtualBack hx (y := own_y16) (z := own_y16) hown59 (mvT hZ59 (own_g hw (i := 114) rfl)) (mvT hZ59 (own_g hw (i := 115) rfl)) (notFace_of_selects (args := #[]) (mvT hZ59 (own_g hw (i := 117) rfl))) (mvT hZ59 (own_g hw (i := 117) rfl)) (mvT hZ59 (own_g hw (i := 116) rfl)) (by decide) (backOf (W := 0) (own_rmog l Z a0 hw [] (op) (fi) T232.heap n0 Z232 F234) hZ59 (own_g hw (i := 118) rfl) (own_g hw (i := 83) rfl) (by decide) (by decide)) q290a q290c (g := (mkF m 164 #[iv sx, iv fx, rv fi, rv un, iv sw, iv df, rv fi, rv un, rv pq, .val (.int 3), rv b3, rv op] [(.ref op)])) rfl (by rw [hml]; rfl) (Steps.refl _) (argsL := []) (rest := []) (lenOf own_pd___Ljava_lang_Object_ rfl) rfl (by show 2 * 0 + _ ≤ _; exact Nat.le_of_eq rfl) (hb hby at_164) (fun _ _ => ⟨rfl, e288, (by decide : 7 + 0 ≤ _), (by decide : 91 + 0 ≤ _)⟩)
      dsimp only [Pt.U, Pt.locs, Pt.cells, Pt.slots] at X290 l290 y290 z290 st290 hQ290
      subst l290 y290 z290
      obtain ⟨rfl, N290q, e290⟩ := hQ290
      have N290 := Fr.app N288 N290q
      refine own_S (mkF m 167 #[iv sx, iv fx, rv fi, rv un, iv sw, iv df, rv fi, rv un, rv pq, .val (.int 3), rv b3, rv op] [(.ref fi)]) (fun _ k => st290.trans k) ?_
      refine own_S (mkF m 169 #[iv sx, iv fx, rv fi, rv un, iv sw, iv df, rv fi, rv un, rv pq, .val (.int 3), rv b3, rv op] [(.ref fi), (.ref fi)]) (fun _ k => XS.aload X290.here hx rfl (hb hby at_167) rfl rfl k) ?_
      have hc291 : fi = fi := rfl
      refine own_S (mkF m 172 #[iv sx, iv fx, rv fi, rv un, iv sw, iv df, rv fi, rv un, rv pq, .val (.int 3), rv b3, rv op] []) (fun _ k => acmp X290 hx rfl rfl rfl (pc0 := 169) (pc' := 172) (same := true) rfl (hb hby at_169) rfl (by simp [hc291]) (by decide) (by decide) k) ?_
      refine own_S (mkF m 173 #[iv sx, iv fx, rv fi, rv un, iv sw, iv df, rv fi, rv un, rv pq, .val (.int 3), rv b3, rv op] [(.int 1)]) (fun _ k => XS.iconst X290.here hx rfl (hb hby at_172) k) ?_
      refine own_S (mkF m 177 #[iv sx, iv fx, rv fi, rv un, iv sw, iv df, rv fi, rv un, rv pq, .val (.int 3), rv b3, rv op] [(.int 1)]) (fun _ k => XS.goto X290.here hx rfl (pc0 := 173) (pc' := 177) rfl (hb hby at_173) (by decide) (by decide) k) ?_
      exact own_retWN (vm₁ := T59.vm) X290 hS59 (show _ ≤ T290.heap.size by rw [e290]; exact hk232) hx hlk (t := .boolean) hret (by simp) (hb hby at_177) (by rw [e290]; exact ⟨rfl, N290, trivial⟩) (by decide) (by decide)
    · -- kk = 4
      subst q101_4
      refine own_S (mkF m 91 #[iv sx, iv fx, rv fi, rv un, iv sw, iv df, rv fi, rv un, rv pq, .val (.int 4), .unset, .unset] [(.int 4)]) (fun _ k => XS.iload X59.here hx rfl (hb hby at_89) rfl k) ?_
      obtain ⟨_, _, ⟨T292, L292, k292, n292⟩, -, X292, ⟨Lc292, hQ292, l292, y292, z292⟩, st292⟩ := Jvm.LawKit.callS X59 hx (y := own_y10) hown59 (mvT hZ59 (own_g hw (i := 69) rfl)) (mvT hZ59 (own_g hw (i := 70) rfl)) (mvT hZ59 (own_g hw (i := 71) rfl)) (mvT hZ59 (own_g hw (i := 72) rfl)) (by decide) (backOf (W := 0) (own_rmst4 l Z a0 hw [] (b4) T59.heap n0 Z59 F88) hZ59 (own_g hw (i := 72) rfl) (own_g hw (i := 71) rfl) (by decide) (by decide)) (g := (mkF m 91 #[iv sx, iv fx, rv fi, rv un, iv sw, iv df, rv fi, rv un, rv pq, .val (.int 4), .unset, .unset] [(.int 4)])) rfl (by rw [hml]; rfl) (argsL := [(.int 4)]) (rest := []) (lenOf own_pd__I_Lcom_example_purgatory_purgatory_model_QueueItemStatus_ rfl) rfl (by show 2 * 0 + _ ≤ _; exact Nat.le_of_eq rfl) (hb hby at_91) (fun _ _ => ⟨rfl, rfl, (by decide : 6 + 0 ≤ _), (by decide : 90 + 0 ≤ _)⟩)
      dsimp only [Pt.U, Pt.locs, Pt.cells, Pt.slots] at X292 l292 y292 z292 st292 hQ292
      subst l292 y292 z292
      obtain ⟨rfl, N292q, e292⟩ := hQ292
      have N292 := Fr.app N59 N292q
      refine own_S (mkF m 94 #[iv sx, iv fx, rv fi, rv un, iv sw, iv df, rv fi, rv un, rv pq, .val (.int 4), .unset, .unset] [(.ref b4)]) (fun _ k => st292 _ k) ?_
      refine own_S (mkF m 96 #[iv sx, iv fx, rv fi, rv un, iv sw, iv df, rv fi, rv un, rv pq, .val (.int 4), rv b4, .unset] []) (fun _ k => XS.astore X292.here hx rfl (hb hby at_94) rfl rfl (l' := #[iv sx, iv fx, rv fi, rv un, iv sw, iv df, rv fi, rv un, rv pq, .val (.int 4), rv b4, .unset]) rfl k) ?_
      refine own_S (mkF m 98 #[iv sx, iv fx, rv fi, rv un, iv sw, iv df, rv fi, rv un, rv pq, .val (.int 4), rv b4, .unset] [(.ref pq)]) (fun _ k => XS.aload X292.here hx rfl (hb hby at_96) rfl rfl k) ?_
      refine own_S (mkF m 100 #[iv sx, iv fx, rv fi, rv un, iv sw, iv df, rv fi, rv un, rv pq, .val (.int 4), rv b4, .unset] [(.ref b4), (.ref pq)]) (fun _ k => XS.aload X292.here hx rfl (hb hby at_98) rfl rfl k) ?_
      obtain ⟨cq293, kq293, q293a, q293b, q293c⟩ := isOf hZ59 e292 F60
      obtain ⟨_, _, ⟨T293, L293, k293, n293⟩, -, X293, ⟨Lc293, hQ293, l293, y293, z293⟩, st293⟩ := X292.virtualBack hx (y := own_y14) (z := own_y14) hown59 (mvT hZ59 (own_g hw (i := 76) rfl)) (mvT hZ59 (own_g hw (i := 77) rfl)) (notFace_of_selects (args := #[]) (mvT hZ59 (own_g hw (i := 79) rfl))) (mvT hZ59 (own_g hw (i := 79) rfl)) (mvT hZ59 (own_g hw (i := 78) rfl)) (by decide) (backOf (W := 0) (own_rmr1 l Z a0 hw [] (pq) (b4) (fi) (em) T59.heap n0 Z59 F89 F90 F61 F73) hZ59 (own_g hw (i := 80) rfl) (own_g hw (i := 1) rfl) (by decide) (by decide)) q293a q293c (g := (mkF m 100 #[iv sx, iv fx, rv fi, rv un, iv sw, iv df, rv fi, rv un, rv pq, .val (.int 4), rv b4, .unset] [(.ref b4), (.ref pq)])) rfl (by rw [hml]; rfl) (Steps.refl _) (argsL := [(.ref b4)]) (rest := []) (lenOf own_pd__Lcom_example_purgatory_purgatory_model_QueueItemStatus__Ljava_util_Optional_ rfl) rfl (by show 2 * 0 + _ ≤ _; exact Nat.le_of_eq rfl) (hb hby at_100) (fun _ _ => ⟨rfl, e292, (by decide : 6 + 1 ≤ _), (by decide : 90 + 1 ≤ _)⟩)
      dsimp only [Pt.U, Pt.locs, Pt.cells, Pt.slots] at X293 l293 y293 z293 st293 hQ293
      subst l293 y293 z293
      obtain ⟨op, rfl, N293q, K293q, F294, F295, pp296⟩ := hQ293
      have N293 := Fr.app N292 N293q
      refine own_S (mkF m 103 #[iv sx, iv fx, rv fi, rv un, iv sw, iv df, rv fi, rv un, rv pq, .val (.int 4), rv b4, .unset] [(.ref op)]) (fun _ k => st293.trans k) ?_
      have n297 : qd ≠ op := Nat.ne_of_lt (Nat.lt_of_lt_of_le F64.lt pp296)
      have n298 : fi ≠ op := Nat.ne_of_lt (Nat.lt_of_lt_of_le F67.lt pp296)
      have n299 : un ≠ op := Nat.ne_of_lt (Nat.lt_of_lt_of_le F68.lt pp296)
      have n300 : dl ≠ op := Nat.ne_of_lt (Nat.lt_of_lt_of_le F71.lt pp296)
      have n301 : em ≠ op := Nat.ne_of_lt (Nat.lt_of_lt_of_le F74.lt pp296)
      have n302 : b0 ≠ op := Nat.ne_of_lt (Nat.lt_of_lt_of_le F77.lt pp296)
      have n303 : b1 ≠ op := Nat.ne_of_lt (Nat.lt_of_lt_of_le F80.lt pp296)
      have n304 : b2 ≠ op := Nat.ne_of_lt (Nat.lt_of_lt_of_le F83.lt pp296)
      have n305 : b3 ≠ op := Nat.ne_of_lt (Nat.lt_of_lt_of_le F86.lt pp296)
      have n306 : b4 ≠ op := Nat.ne_of_lt (Nat.lt_of_lt_of_le F89.lt pp296)
      have n307 : b5 ≠ op := Nat.ne_of_lt (Nat.lt_of_lt_of_le F92.lt pp296)
      have n308 : b6 ≠ op := Nat.ne_of_lt (Nat.lt_of_lt_of_le F95.lt pp296)
      have n309 : pq ≠ op := Nat.ne_of_lt (Nat.lt_of_lt_of_le F60.lt pp296)
      have ge_op : n0 ≤ op := Nat.le_trans Z59 pp296
      have F310 := F63.ext ⟨K293q.1, fun a c q => K293q.2.1 a c q nin0⟩
      have F311 := F64.keep K293q
      have F312 := F65.keep K293q nin0
      have F313 := F66.keep K293q nin0
      have F314 := F67.keep K293q
      have F315 := F68.keep K293q
      have F316 := F69.keep K293q nin0
      have F317 := F70.keep K293q nin0
      have F318 := F71.keep K293q
      have F319 := F72.keep K293q nin0
      have F320 := F73.ext ⟨K293q.1, fun a c q => K293q.2.1 a c q nin0⟩
      have F321 := F74.keep K293q
      have F322 := F75.keep K293q nin0
      have F323 := F76.ext ⟨K293q.1, fun a c q => K293q.2.1 a c q nin0⟩
      have F324 := F77.keep K293q
      have F325 := F78.keep K293q nin0
      have F326 := F79.ext ⟨K293q.1, fun a c q => K293q.2.1 a c q nin0⟩
      have F327 := F80.keep K293q
      have F328 := F81.keep K293q nin0
      have F329 := F82.ext ⟨K293q.1, fun a c q => K293q.2.1 a c q nin0⟩
      have F330 := F83.keep K293q
      have F331 := F84.keep K293q nin0
      have F332 := F85.ext ⟨K293q.1, fun a c q => K293q.2.1 a c q nin0⟩
      have F333 := F86.keep K293q
      have F334 := F87.keep K293q nin0
      have F335 := F88.ext ⟨K293q.1, fun a c q => K293q.2.1 a c q nin0⟩
      have F336 := F89.keep K293q
      have F337 := F90.keep K293q nin0
      have F338 := F91.ext ⟨K293q.1, fun a c q => K293q.2.1 a c q nin0⟩
      have F339 := F92.keep K293q
      have F340 := F93.keep K293q nin0
      have F341 := F94.ext ⟨K293q.1, fun a c q => K293q.2.1 a c q nin0⟩
      have F342 := F95.keep K293q
      have F343 := F96.keep K293q nin0
      have F344 := F60.keep K293q
      have F345 := F61.keep K293q nin0
      have F346 := F62.keep K293q nin0
      have Z293 : n0 ≤ T293.heap.size := Nat.le_trans Z59 K293q.1
      have hk293 : T59.heap.size ≤ T293.heap.size := Nat.le_trans (Nat.le_refl T59.heap.size) K293q.1
      refine own_S (mkF m 105 #[iv sx, iv fx, rv fi, rv un, iv sw, iv df, rv fi, rv un, rv pq, .val (.int 4), rv b4, rv op] []) (fun _ k => XS.astore X293.here hx rfl (hb hby at_103) rfl rfl (l' := #[iv sx, iv fx, rv fi, rv un, iv sw, iv df, rv fi, rv un, rv pq, .val (.int 4), rv b4, rv op]) rfl k) ?_
      refine own_S (mkF m 107 #[iv sx, iv fx, rv fi, rv un, iv sw, iv df, rv fi, rv un, rv pq, .val (.int 4), rv b4, rv op] [(.int 4)]) (fun _ k => XS.iload X293.here hx rfl (hb hby at_105) rfl k) ?_
      have hc347 : ¬ ((4 : Int32) = (0 : Int32)) := by decide
      refine own_S (mkF m 134 #[iv sx, iv fx, rv fi, rv un, iv sw, iv df, rv fi, rv un, rv pq, .val (.int 4), rv b4, rv op] []) (fun _ k => XS.ifYes X293.here hx rfl (pc0 := 107) (pc' := 134) rfl (hb hby at_107) rfl ((if0 _ _).trans (feq hc347).2) (by decide) (by decide) k) ?_
      refine own_S (mkF m 136 #[iv sx, iv fx, rv fi, rv un, iv sw, iv df, rv fi, rv un, rv pq, .val (.int 4), rv b4, rv op] [(.int 4)]) (fun _ k => XS.iload X293.here hx rfl (hb hby at_134) rfl k) ?_
      refine own_S (mkF m 137 #[iv sx, iv fx, rv fi, rv un, iv sw, iv df, rv fi, rv un, rv pq, .val (.int 4), rv b4, rv op] [(.int 1), (.int 4)]) (fun _ k => XS.iconst X293.here hx rfl (hb hby at_136) k) ?_
      have hc348 : ¬ ((4 : Int32) = (1 : Int32)) := by decide
      refine own_S (mkF m 154 #[iv sx, iv fx, rv fi, rv un, iv sw, iv df, rv fi, rv un, rv pq, .val (.int 4), rv b4, rv op] []) (fun _ k => XS.icmpYes X293.here hx rfl (pc0 := 137) (pc' := 154) rfl (hb hby at_137) rfl (feq hc348).2 (by decide) (by decide) k) ?_
      refine own_S (mkF m 156 #[iv sx, iv fx, rv fi, rv un, iv sw, iv df, rv fi, rv un, rv pq, .val (.int 4), rv b4, rv op] [(.ref op)]) (fun _ k => XS.aload X293.here hx rfl (hb hby at_154) rfl rfl k) ?_
      obtain ⟨cq349, kq349, q349a, q349b, q349c⟩ := isOf hZ59 rfl F294
      obtain ⟨_, _, ⟨T349, L349, k349, n349⟩, -, X349, ⟨Lc349, hQ349, l349, y349, z349⟩, st349⟩ := X293.virtualBack hx (y := own_y15) (z := own_y15) hown59 (mvT hZ59 (own_g hw (i := 109) rfl)) (mvT hZ59 (own_g hw (i := 110) rfl)) (notFace_of_selects (args := #[]) (mvT hZ59 (own_g hw (i := 112) rfl))) (mvT hZ59 (own_g hw (i := 112) rfl)) (mvT hZ59 (own_g hw (i := 111) rfl)) (by decide) (backOf (W := 0) (own_rmip1 l Z a0 hw [] (op) (fi) T293.heap n0 Z293 F295) hZ59 (own_g hw (i := 113) rfl) (own_g hw (i := 83) rfl) (by decide) (by decide)) q349a q349c (g := (mkF m 156 #[iv sx, iv fx, rv fi, rv un, iv sw, iv df, rv fi, rv un, rv pq, .val (.int 4), rv b4, rv op] [(.ref op)])) rfl (by rw [hml]; rfl) (Steps.refl _) (argsL := []) (rest := []) (lenOf own_pd___Z rfl) rfl (by show 2 * 0 + _ ≤ _; exact Nat.le_of_eq rfl) (hb hby at_156) (fun _ _ => ⟨rfl, rfl, (by decide : 7 + 0 ≤ _), (by decide : 91 + 0 ≤ _)⟩)
      dsimp only [Pt.U, Pt.locs, Pt.cells, Pt.slots] at X349 l349 y349 z349 st349 hQ349
      subst l349 y349 z349
      obtain ⟨rfl, N349q, e349⟩ := hQ349
      have N349 := Fr.app N293 N349q
      refine own_S (mkF m 159 #[iv sx, iv fx, rv fi, rv un, iv sw, iv df, rv fi, rv un, rv pq, .val (.int 4), rv b4, rv op] [(.int 1)]) (fun _ k => st349.trans k) ?_
      have hc350 : ¬ ((1 : Int32) = (0 : Int32)) := by decide
      refine own_S (mkF m 162 #[iv sx, iv fx, rv fi, rv un, iv sw, iv df, rv fi, rv un, rv pq, .val (.int 4), rv b4, rv op] []) (fun _ k => XS.ifNo X349.here hx rfl (hb hby at_159) rfl ((if0 _ _).trans (feq hc350).1) k) ?_
      refine own_S (mkF m 164 #[iv sx, iv fx, rv fi, rv un, iv sw, iv df, rv fi, rv un, rv pq, .val (.int 4), rv b4, rv op] [(.ref op)]) (fun _ k => XS.aload X349.here hx rfl (hb hby at_162) rfl rfl k) ?_
      obtain ⟨cq351, kq351, q351a, q351b, q351c⟩ := isOf hZ59 e349 F294
      obtain ⟨_, _, ⟨T351, L351, k351, n351⟩, -, X351, ⟨Lc351, hQ351, l351, y351, z351⟩, st351⟩ := X349.virtualBack hx (y := own_y16) (z := own_y16) hown59 (mvT hZ59 (own_g hw (i := 114) rfl)) (mvT hZ59 (own_g hw (i := 115) rfl)) (notFace_of_selects (args := #[]) (mvT hZ59 (own_g hw (i := 117) rfl))) (mvT hZ59 (own_g hw (i := 117) rfl)) (mvT hZ59 (own_g hw (i := 116) rfl)) (by decide) (backOf (W := 0) (own_rmog l Z a0 hw [] (op) (fi) T293.heap n0 Z293 F295) hZ59 (own_g hw (i := 118) rfl) (own_g hw (i := 83) rfl) (by decide) (by decide)) q351a q351c (g := (mkF m 164 #[iv sx, iv fx, rv fi, rv un, iv sw, iv df, rv fi, rv un, rv pq, .val (.int 4), rv b4, rv op] [(.ref op)])) rfl (by rw [hml]; rfl) (Steps.refl _) (argsL := []) (rest := []) (lenOf own_pd___Ljava_lang_Object_ rfl) rfl (by show 2 * 0 + _ ≤ _; exact Nat.le_of_eq rfl) (hb hby at_164) (fun _ _ => ⟨rfl, e349, (by decide : 7 + 0 ≤ _), (by decide : 91 + 0 ≤ _)⟩)
      dsimp only [Pt.U, Pt.locs, Pt.cells, Pt.slots] at X351 l351 y351 z351 st351 hQ351
      subst l351 y351 z351
      obtain ⟨rfl, N351q, e351⟩ := hQ351
      have N351 := Fr.app N349 N351q
      refine own_S (mkF m 167 #[iv sx, iv fx, rv fi, rv un, iv sw, iv df, rv fi, rv un, rv pq, .val (.int 4), rv b4, rv op] [(.ref fi)]) (fun _ k => st351.trans k) ?_
      refine own_S (mkF m 169 #[iv sx, iv fx, rv fi, rv un, iv sw, iv df, rv fi, rv un, rv pq, .val (.int 4), rv b4, rv op] [(.ref fi), (.ref fi)]) (fun _ k => XS.aload X351.here hx rfl (hb hby at_167) rfl rfl k) ?_
      have hc352 : fi = fi := rfl
      refine own_S (mkF m 172 #[iv sx, iv fx, rv fi, rv un, iv sw, iv df, rv fi, rv un, rv pq, .val (.int 4), rv b4, rv op] []) (fun _ k => acmp X351 hx rfl rfl rfl (pc0 := 169) (pc' := 172) (same := true) rfl (hb hby at_169) rfl (by simp [hc352]) (by decide) (by decide) k) ?_
      refine own_S (mkF m 173 #[iv sx, iv fx, rv fi, rv un, iv sw, iv df, rv fi, rv un, rv pq, .val (.int 4), rv b4, rv op] [(.int 1)]) (fun _ k => XS.iconst X351.here hx rfl (hb hby at_172) k) ?_
      refine own_S (mkF m 177 #[iv sx, iv fx, rv fi, rv un, iv sw, iv df, rv fi, rv un, rv pq, .val (.int 4), rv b4, rv op] [(.int 1)]) (fun _ k => XS.goto X351.here hx rfl (pc0 := 173) (pc' := 177) rfl (hb hby at_173) (by decide) (by decide) k) ?_
      exact own_retWN (vm₁ := T59.vm) X351 hS59 (show _ ≤ T351.heap.size by rw [e351]; exact hk293) hx hlk (t := .boolean) hret (by simp) (hb hby at_177) (by rw [e351]; exact ⟨rfl, N351, trivial⟩) (by decide) (by decide)
    · -- kk = 5
      subst q102_5
      refine own_S (mkF m 91 #[iv sx, iv fx, rv fi, rv un, iv sw, iv df, rv fi, rv un, rv pq, .val (.int 5), .unset, .unset] [(.int 5)]) (fun _ k => XS.iload X59.here hx rfl (hb hby at_89) rfl k) ?_
      obtain ⟨_, _, ⟨T353, L353, k353, n353⟩, -, X353, ⟨Lc353, hQ353, l353, y353, z353⟩, st353⟩ := Jvm.LawKit.callS X59 hx (y := own_y10) hown59 (mvT hZ59 (own_g hw (i := 69) rfl)) (mvT hZ59 (own_g hw (i := 70) rfl)) (mvT hZ59 (own_g hw (i := 71) rfl)) (mvT hZ59 (own_g hw (i := 72) rfl)) (by decide) (backOf (W := 0) (own_rmst5 l Z a0 hw [] (b5) T59.heap n0 Z59 F91) hZ59 (own_g hw (i := 72) rfl) (own_g hw (i := 71) rfl) (by decide) (by decide)) (g := (mkF m 91 #[iv sx, iv fx, rv fi, rv un, iv sw, iv df, rv fi, rv un, rv pq, .val (.int 5), .unset, .unset] [(.int 5)])) rfl (by rw [hml]; rfl) (argsL := [(.int 5)]) (rest := []) (lenOf own_pd__I_Lcom_example_purgatory_purgatory_model_QueueItemStatus_ rfl) rfl (by show 2 * 0 + _ ≤ _; exact Nat.le_of_eq rfl) (hb hby at_91) (fun _ _ => ⟨rfl, rfl, (by decide : 6 + 0 ≤ _), (by decide : 90 + 0 ≤ _)⟩)
      dsimp only [Pt.U, Pt.locs, Pt.cells, Pt.slots] at X353 l353 y353 z353 st353 hQ353
      subst l353 y353 z353
      obtain ⟨rfl, N353q, e353⟩ := hQ353
      have N353 := Fr.app N59 N353q
      refine own_S (mkF m 94 #[iv sx, iv fx, rv fi, rv un, iv sw, iv df, rv fi, rv un, rv pq, .val (.int 5), .unset, .unset] [(.ref b5)]) (fun _ k => st353 _ k) ?_
      refine own_S (mkF m 96 #[iv sx, iv fx, rv fi, rv un, iv sw, iv df, rv fi, rv un, rv pq, .val (.int 5), rv b5, .unset] []) (fun _ k => XS.astore X353.here hx rfl (hb hby at_94) rfl rfl (l' := #[iv sx, iv fx, rv fi, rv un, iv sw, iv df, rv fi, rv un, rv pq, .val (.int 5), rv b5, .unset]) rfl k) ?_
      refine own_S (mkF m 98 #[iv sx, iv fx, rv fi, rv un, iv sw, iv df, rv fi, rv un, rv pq, .val (.int 5), rv b5, .unset] [(.ref pq)]) (fun _ k => XS.aload X353.here hx rfl (hb hby at_96) rfl rfl k) ?_
      refine own_S (mkF m 100 #[iv sx, iv fx, rv fi, rv un, iv sw, iv df, rv fi, rv un, rv pq, .val (.int 5), rv b5, .unset] [(.ref b5), (.ref pq)]) (fun _ k => XS.aload X353.here hx rfl (hb hby at_98) rfl rfl k) ?_
      obtain ⟨cq354, kq354, q354a, q354b, q354c⟩ := isOf hZ59 e353 F60
      obtain ⟨_, _, ⟨T354, L354, k354, n354⟩, -, X354, ⟨Lc354, hQ354, l354, y354, z354⟩, st354⟩ := X353.virtualBack hx (y := own_y14) (z := own_y14) hown59 (mvT hZ59 (own_g hw (i := 76) rfl)) (mvT hZ59 (own_g hw (i := 77) rfl)) (notFace_of_selects (args := #[]) (mvT hZ59 (own_g hw (i := 79) rfl))) (mvT hZ59 (own_g hw (i := 79) rfl)) (mvT hZ59 (own_g hw (i := 78) rfl)) (by decide) (backOf (W := 0) (own_rmr1 l Z a0 hw [] (pq) (b5) (fi) (em) T59.heap n0 Z59 F92 F93 F61 F73) hZ59 (own_g hw (i := 80) rfl) (own_g hw (i := 1) rfl) (by decide) (by decide)) q354a q354c (g := (mkF m 100 #[iv sx, iv fx, rv fi, rv un, iv sw, iv df, rv fi, rv un, rv pq, .val (.int 5), rv b5, .unset] [(.ref b5), (.ref pq)])) rfl (by rw [hml]; rfl) (Steps.refl _) (argsL := [(.ref b5)]) (rest := []) (lenOf own_pd__Lcom_example_purgatory_purgatory_model_QueueItemStatus__Ljava_util_Optional_ rfl) rfl (by show 2 * 0 + _ ≤ _; exact Nat.le_of_eq rfl) (hb hby at_100) (fun _ _ => ⟨rfl, e353, (by decide : 6 + 1 ≤ _), (by decide : 90 + 1 ≤ _)⟩)
      dsimp only [Pt.U, Pt.locs, Pt.cells, Pt.slots] at X354 l354 y354 z354 st354 hQ354
      subst l354 y354 z354
      obtain ⟨op, rfl, N354q, K354q, F355, F356, pp357⟩ := hQ354
      have N354 := Fr.app N353 N354q
      refine own_S (mkF m 103 #[iv sx, iv fx, rv fi, rv un, iv sw, iv df, rv fi, rv un, rv pq, .val (.int 5), rv b5, .unset] [(.ref op)]) (fun _ k => st354.trans k) ?_
      have n358 : qd ≠ op := Nat.ne_of_lt (Nat.lt_of_lt_of_le F64.lt pp357)
      have n359 : fi ≠ op := Nat.ne_of_lt (Nat.lt_of_lt_of_le F67.lt pp357)
      have n360 : un ≠ op := Nat.ne_of_lt (Nat.lt_of_lt_of_le F68.lt pp357)
      have n361 : dl ≠ op := Nat.ne_of_lt (Nat.lt_of_lt_of_le F71.lt pp357)
      have n362 : em ≠ op := Nat.ne_of_lt (Nat.lt_of_lt_of_le F74.lt pp357)
      have n363 : b0 ≠ op := Nat.ne_of_lt (Nat.lt_of_lt_of_le F77.lt pp357)
      have n364 : b1 ≠ op := Nat.ne_of_lt (Nat.lt_of_lt_of_le F80.lt pp357)
      have n365 : b2 ≠ op := Nat.ne_of_lt (Nat.lt_of_lt_of_le F83.lt pp357)
      have n366 : b3 ≠ op := Nat.ne_of_lt (Nat.lt_of_lt_of_le F86.lt pp357)
      have n367 : b4 ≠ op := Nat.ne_of_lt (Nat.lt_of_lt_of_le F89.lt pp357)
      have n368 : b5 ≠ op := Nat.ne_of_lt (Nat.lt_of_lt_of_le F92.lt pp357)
      have n369 : b6 ≠ op := Nat.ne_of_lt (Nat.lt_of_lt_of_le F95.lt pp357)
      have n370 : pq ≠ op := Nat.ne_of_lt (Nat.lt_of_lt_of_le F60.lt pp357)
      have ge_op : n0 ≤ op := Nat.le_trans Z59 pp357
      have F371 := F63.ext ⟨K354q.1, fun a c q => K354q.2.1 a c q nin0⟩
      have F372 := F64.keep K354q
      have F373 := F65.keep K354q nin0
      have F374 := F66.keep K354q nin0
      have F375 := F67.keep K354q
      have F376 := F68.keep K354q
      have F377 := F69.keep K354q nin0
      have F378 := F70.keep K354q nin0
      have F379 := F71.keep K354q
      have F380 := F72.keep K354q nin0
      have F381 := F73.ext ⟨K354q.1, fun a c q => K354q.2.1 a c q nin0⟩
      have F382 := F74.keep K354q
      have F383 := F75.keep K354q nin0
      have F384 := F76.ext ⟨K354q.1, fun a c q => K354q.2.1 a c q nin0⟩
      have F385 := F77.keep K354q
      have F386 := F78.keep K354q nin0
      have F387 := F79.ext ⟨K354q.1, fun a c q => K354q.2.1 a c q nin0⟩
      have F388 := F80.keep K354q
      have F389 := F81.keep K354q nin0
      have F390 := F82.ext ⟨K354q.1, fun a c q => K354q.2.1 a c q nin0⟩
      have F391 := F83.keep K354q
      have F392 := F84.keep K354q nin0
      have F393 := F85.ext ⟨K354q.1, fun a c q => K354q.2.1 a c q nin0⟩
      have F394 := F86.keep K354q
      have F395 := F87.keep K354q nin0
      have F396 := F88.ext ⟨K354q.1, fun a c q => K354q.2.1 a c q nin0⟩
      have F397 := F89.keep K354q
      have F398 := F90.keep K354q nin0
      have F399 := F91.ext ⟨K354q.1, fun a c q => K354q.2.1 a c q nin0⟩
      have F400 := F92.keep K354q
      have F401 := F93.keep K354q nin0
      have F402 := F94.ext ⟨K354q.1, fun a c q => K354q.2.1 a c q nin0⟩
      have F403 := F95.keep K354q
      have F404 := F96.keep K354q nin0
      have F405 := F60.keep K354q
      have F406 := F61.keep K354q nin0
      have F407 := F62.keep K354q nin0
      have Z354 : n0 ≤ T354.heap.size := Nat.le_trans Z59 K354q.1
      have hk354 : T59.heap.size ≤ T354.heap.size := Nat.le_trans (Nat.le_refl T59.heap.size) K354q.1
      refine own_S (mkF m 105 #[iv sx, iv fx, rv fi, rv un, iv sw, iv df, rv fi, rv un, rv pq, .val (.int 5), rv b5, rv op] []) (fun _ k => XS.astore X354.here hx rfl (hb hby at_103) rfl rfl (l' := #[iv sx, iv fx, rv fi, rv un, iv sw, iv df, rv fi, rv un, rv pq, .val (.int 5), rv b5, rv op]) rfl k) ?_
      refine own_S (mkF m 107 #[iv sx, iv fx, rv fi, rv un, iv sw, iv df, rv fi, rv un, rv pq, .val (.int 5), rv b5, rv op] [(.int 5)]) (fun _ k => XS.iload X354.here hx rfl (hb hby at_105) rfl k) ?_
      have hc408 : ¬ ((5 : Int32) = (0 : Int32)) := by decide
      refine own_S (mkF m 134 #[iv sx, iv fx, rv fi, rv un, iv sw, iv df, rv fi, rv un, rv pq, .val (.int 5), rv b5, rv op] []) (fun _ k => XS.ifYes X354.here hx rfl (pc0 := 107) (pc' := 134) rfl (hb hby at_107) rfl ((if0 _ _).trans (feq hc408).2) (by decide) (by decide) k) ?_
      refine own_S (mkF m 136 #[iv sx, iv fx, rv fi, rv un, iv sw, iv df, rv fi, rv un, rv pq, .val (.int 5), rv b5, rv op] [(.int 5)]) (fun _ k => XS.iload X354.here hx rfl (hb hby at_134) rfl k) ?_
      refine own_S (mkF m 137 #[iv sx, iv fx, rv fi, rv un, iv sw, iv df, rv fi, rv un, rv pq, .val (.int 5), rv b5, rv op] [(.int 1), (.int 5)]) (fun _ k => XS.iconst X354.here hx rfl (hb hby at_136) k) ?_
      have hc409 : ¬ ((5 : Int32) = (1 : Int32)) := by decide
      refine own_S (mkF m 154 #[iv sx, iv fx, rv fi, rv un, iv sw, iv df, rv fi, rv un, rv pq, .val (.int 5), rv b5, rv op] []) (fun _ k => XS.icmpYes X354.here hx rfl (pc0 := 137) (pc' := 154) rfl (hb hby at_137) rfl (feq hc409).2 (by decide) (by decide) k) ?_
      refine own_S (mkF m 156 #[iv sx, iv fx, rv fi, rv un, iv sw, iv df, rv fi, rv un, rv pq, .val (.int 5), rv b5, rv op] [(.ref op)]) (fun _ k => XS.aload X354.here hx rfl (hb hby at_154) rfl rfl k) ?_
      obtain ⟨cq410, kq410, q410a, q410b, q410c⟩ := isOf hZ59 rfl F355
      obtain ⟨_, _, ⟨T410, L410, k410, n410⟩, -, X410, ⟨Lc410, hQ410, l410, y410, z410⟩, st410⟩ := X354.virtualBack hx (y := own_y15) (z := own_y15) hown59 (mvT hZ59 (own_g hw (i := 109) rfl)) (mvT hZ59 (own_g hw (i := 110) rfl)) (notFace_of_selects (args := #[]) (mvT hZ59 (own_g hw (i := 112) rfl))) (mvT hZ59 (own_g hw (i := 112) rfl)) (mvT hZ59 (own_g hw (i := 111) rfl)) (by decide) (backOf (W := 0) (own_rmip1 l Z a0 hw [] (op) (fi) T354.heap n0 Z354 F356) hZ59 (own_g hw (i := 113) rfl) (own_g hw (i := 83) rfl) (by decide) (by decide)) q410a q410c (g := (mkF m 156 #[iv sx, iv fx, rv fi, rv un, iv sw, iv df, rv fi, rv un, rv pq, .val (.int 5), rv b5, rv op] [(.ref op)])) rfl (by rw [hml]; rfl) (Steps.refl _) (argsL := []) (rest := []) (lenOf own_pd___Z rfl) rfl (by show 2 * 0 + _ ≤ _; exact Nat.le_of_eq rfl) (hb hby at_156) (fun _ _ => ⟨rfl, rfl, (by decide : 7 + 0 ≤ _), (by decide : 91 + 0 ≤ _)⟩)
      dsimp only [Pt.U, Pt.locs, Pt.cells, Pt.slots] at X410 l410 y410 z410 st410 hQ410
      subst l410 y410 z410
      obtain ⟨rfl, N410q, e410⟩ := hQ410
      have N410 := Fr.app N354 N410q
      refine own_S (mkF m 159 #[iv sx, iv fx, rv fi, rv un, iv sw, iv df, rv fi, rv un, rv pq, .val (.int 5), rv b5, rv op] [(.int 1)]) (fun _ k => st410.trans k) ?_
      have hc411 : ¬ ((1 : Int32) = (0 : Int32)) := by decide
      refine own_S (mkF m 162 #[iv sx, iv fx, rv fi, rv un, iv sw, iv df, rv fi, rv un, rv pq, .val (.int 5), rv b5, rv op] []) (fun _ k => XS.ifNo X410.here hx rfl (hb hby at_159) rfl ((if0 _ _).trans (feq hc411).1) k) ?_
      refine own_S (mkF m 164 #[iv sx, iv fx, rv fi, rv un, iv sw, iv df, rv fi, rv un, rv pq, .val (.int 5), rv b5, rv op] [(.ref op)]) (fun _ k => XS.aload X410.here hx rfl (hb hby at_162) rfl rfl k) ?_
      obtain ⟨cq412, kq412, q412a, q412b, q412c⟩ := isOf hZ59 e410 F355
      obtain ⟨_, _, ⟨T412, L412, k412, n412⟩, -, X412, ⟨Lc412, hQ412, l412, y412, z412⟩, st412⟩ := X410.virtualBack hx (y := own_y16) (z := own_y16) hown59 (mvT hZ59 (own_g hw (i := 114) rfl)) (mvT hZ59 (own_g hw (i := 115) rfl)) (notFace_of_selects (args := #[]) (mvT hZ59 (own_g hw (i := 117) rfl))) (mvT hZ59 (own_g hw (i := 117) rfl)) (mvT hZ59 (own_g hw (i := 116) rfl)) (by decide) (backOf (W := 0) (own_rmog l Z a0 hw [] (op) (fi) T354.heap n0 Z354 F356) hZ59 (own_g hw (i := 118) rfl) (own_g hw (i := 83) rfl) (by decide) (by decide)) q412a q412c (g := (mkF m 164 #[iv sx, iv fx, rv fi, rv un, iv sw, iv df, rv fi, rv un, rv pq, .val (.int 5), rv b5, rv op] [(.ref op)])) rfl (by rw [hml]; rfl) (Steps.refl _) (argsL := []) (rest := []) (lenOf own_pd___Ljava_lang_Object_ rfl) rfl (by show 2 * 0 + _ ≤ _; exact Nat.le_of_eq rfl) (hb hby at_164) (fun _ _ => ⟨rfl, e410, (by decide : 7 + 0 ≤ _), (by decide : 91 + 0 ≤ _)⟩)
      dsimp only [Pt.U, Pt.locs, Pt.cells, Pt.slots] at X412 l412 y412 z412 st412 hQ412
      subst l412 y412 z412
      obtain ⟨rfl, N412q, e412⟩ := hQ412
      have N412 := Fr.app N410 N412q
      refine own_S (mkF m 167 #[iv sx, iv fx, rv fi, rv un, iv sw, iv df, rv fi, rv un, rv pq, .val (.int 5), rv b5, rv op] [(.ref fi)]) (fun _ k => st412.trans k) ?_
      refine own_S (mkF m 169 #[iv sx, iv fx, rv fi, rv un, iv sw, iv df, rv fi, rv un, rv pq, .val (.int 5), rv b5, rv op] [(.ref fi), (.ref fi)]) (fun _ k => XS.aload X412.here hx rfl (hb hby at_167) rfl rfl k) ?_
      have hc413 : fi = fi := rfl
      refine own_S (mkF m 172 #[iv sx, iv fx, rv fi, rv un, iv sw, iv df, rv fi, rv un, rv pq, .val (.int 5), rv b5, rv op] []) (fun _ k => acmp X412 hx rfl rfl rfl (pc0 := 169) (pc' := 172) (same := true) rfl (hb hby at_169) rfl (by simp [hc413]) (by decide) (by decide) k) ?_
      refine own_S (mkF m 173 #[iv sx, iv fx, rv fi, rv un, iv sw, iv df, rv fi, rv un, rv pq, .val (.int 5), rv b5, rv op] [(.int 1)]) (fun _ k => XS.iconst X412.here hx rfl (hb hby at_172) k) ?_
      refine own_S (mkF m 177 #[iv sx, iv fx, rv fi, rv un, iv sw, iv df, rv fi, rv un, rv pq, .val (.int 5), rv b5, rv op] [(.int 1)]) (fun _ k => XS.goto X412.here hx rfl (pc0 := 173) (pc' := 177) rfl (hb hby at_173) (by decide) (by decide) k) ?_
      exact own_retWN (vm₁ := T59.vm) X412 hS59 (show _ ≤ T412.heap.size by rw [e412]; exact hk354) hx hlk (t := .boolean) hret (by simp) (hb hby at_177) (by rw [e412]; exact ⟨rfl, N412, trivial⟩) (by decide) (by decide)
    · -- kk = 6
      subst q103_6
      refine own_S (mkF m 91 #[iv sx, iv fx, rv fi, rv un, iv sw, iv df, rv fi, rv un, rv pq, .val (.int 6), .unset, .unset] [(.int 6)]) (fun _ k => XS.iload X59.here hx rfl (hb hby at_89) rfl k) ?_
      obtain ⟨_, _, ⟨T414, L414, k414, n414⟩, -, X414, ⟨Lc414, hQ414, l414, y414, z414⟩, st414⟩ := Jvm.LawKit.callS X59 hx (y := own_y10) hown59 (mvT hZ59 (own_g hw (i := 69) rfl)) (mvT hZ59 (own_g hw (i := 70) rfl)) (mvT hZ59 (own_g hw (i := 71) rfl)) (mvT hZ59 (own_g hw (i := 72) rfl)) (by decide) (backOf (W := 0) (own_rmst6 l Z a0 hw [] (b6) T59.heap n0 Z59 F94) hZ59 (own_g hw (i := 72) rfl) (own_g hw (i := 71) rfl) (by decide) (by decide)) (g := (mkF m 91 #[iv sx, iv fx, rv fi, rv un, iv sw, iv df, rv fi, rv un, rv pq, .val (.int 6), .unset, .unset] [(.int 6)])) rfl (by rw [hml]; rfl) (argsL := [(.int 6)]) (rest := []) (lenOf own_pd__I_Lcom_example_purgatory_purgatory_model_QueueItemStatus_ rfl) rfl (by show 2 * 0 + _ ≤ _; exact Nat.le_of_eq rfl) (hb hby at_91) (fun _ _ => ⟨rfl, rfl, (by decide : 6 + 0 ≤ _), (by decide : 90 + 0 ≤ _)⟩)
      dsimp only [Pt.U, Pt.locs, Pt.cells, Pt.slots] at X414 l414 y414 z414 st414 hQ414
      subst l414 y414 z414
      obtain ⟨rfl, N414q, e414⟩ := hQ414
      have N414 := Fr.app N59 N414q
      refine own_S (mkF m 94 #[iv sx, iv fx, rv fi, rv un, iv sw, iv df, rv fi, rv un, rv pq, .val (.int 6), .unset, .unset] [(.ref b6)]) (fun _ k => st414 _ k) ?_
      refine own_S (mkF m 96 #[iv sx, iv fx, rv fi, rv un, iv sw, iv df, rv fi, rv un, rv pq, .val (.int 6), rv b6, .unset] []) (fun _ k => XS.astore X414.here hx rfl (hb hby at_94) rfl rfl (l' := #[iv sx, iv fx, rv fi, rv un, iv sw, iv df, rv fi, rv un, rv pq, .val (.int 6), rv b6, .unset]) rfl k) ?_
      refine own_S (mkF m 98 #[iv sx, iv fx, rv fi, rv un, iv sw, iv df, rv fi, rv un, rv pq, .val (.int 6), rv b6, .unset] [(.ref pq)]) (fun _ k => XS.aload X414.here hx rfl (hb hby at_96) rfl rfl k) ?_
      refine own_S (mkF m 100 #[iv sx, iv fx, rv fi, rv un, iv sw, iv df, rv fi, rv un, rv pq, .val (.int 6), rv b6, .unset] [(.ref b6), (.ref pq)]) (fun _ k => XS.aload X414.here hx rfl (hb hby at_98) rfl rfl k) ?_
      obtain ⟨cq415, kq415, q415a, q415b, q415c⟩ := isOf hZ59 e414 F60
      obtain ⟨_, _, ⟨T415, L415, k415, n415⟩, -, X415, ⟨Lc415, hQ415, l415, y415, z415⟩, st415⟩ := X414.virtualBack hx (y := own_y14) (z := own_y14) hown59 (mvT hZ59 (own_g hw (i := 76) rfl)) (mvT hZ59 (own_g hw (i := 77) rfl)) (notFace_of_selects (args := #[]) (mvT hZ59 (own_g hw (i := 79) rfl))) (mvT hZ59 (own_g hw (i := 79) rfl)) (mvT hZ59 (own_g hw (i := 78) rfl)) (by decide) (backOf (W := 0) (own_rmr1 l Z a0 hw [] (pq) (b6) (fi) (em) T59.heap n0 Z59 F95 F96 F61 F73) hZ59 (own_g hw (i := 80) rfl) (own_g hw (i := 1) rfl) (by decide) (by decide)) q415a q415c (g := (mkF m 100 #[iv sx, iv fx, rv fi, rv un, iv sw, iv df, rv fi, rv un, rv pq, .val (.int 6), rv b6, .unset] [(.ref b6), (.ref pq)])) rfl (by rw [hml]; rfl) (Steps.refl _) (argsL := [(.ref b6)]) (rest := []) (lenOf own_pd__Lcom_example_purgatory_purgatory_model_QueueItemStatus__Ljava_util_Optional_ rfl) rfl (by show 2 * 0 + _ ≤ _; exact Nat.le_of_eq rfl) (hb hby at_100) (fun _ _ => ⟨rfl, e414, (by decide : 6 + 1 ≤ _), (by decide : 90 + 1 ≤ _)⟩)
      dsimp only [Pt.U, Pt.locs, Pt.cells, Pt.slots] at X415 l415 y415 z415 st415 hQ415
      subst l415 y415 z415
      obtain ⟨op, rfl, N415q, K415q, F416, F417, pp418⟩ := hQ415
      have N415 := Fr.app N414 N415q
      refine own_S (mkF m 103 #[iv sx, iv fx, rv fi, rv un, iv sw, iv df, rv fi, rv un, rv pq, .val (.int 6), rv b6, .unset] [(.ref op)]) (fun _ k => st415.trans k) ?_
      have n419 : qd ≠ op := Nat.ne_of_lt (Nat.lt_of_lt_of_le F64.lt pp418)
      have n420 : fi ≠ op := Nat.ne_of_lt (Nat.lt_of_lt_of_le F67.lt pp418)
      have n421 : un ≠ op := Nat.ne_of_lt (Nat.lt_of_lt_of_le F68.lt pp418)
      have n422 : dl ≠ op := Nat.ne_of_lt (Nat.lt_of_lt_of_le F71.lt pp418)
      have n423 : em ≠ op := Nat.ne_of_lt (Nat.lt_of_lt_of_le F74.lt pp418)
      have n424 : b0 ≠ op := Nat.ne_of_lt (Nat.lt_of_lt_of_le F77.lt pp418)
      have n425 : b1 ≠ op := Nat.ne_of_lt (Nat.lt_of_lt_of_le F80.lt pp418)
      have n426 : b2 ≠ op := Nat.ne_of_lt (Nat.lt_of_lt_of_le F83.lt pp418)
      have n427 : b3 ≠ op := Nat.ne_of_lt (Nat.lt_of_lt_of_le F86.lt pp418)
      have n428 : b4 ≠ op := Nat.ne_of_lt (Nat.lt_of_lt_of_le F89.lt pp418)
      have n429 : b5 ≠ op := Nat.ne_of_lt (Nat.lt_of_lt_of_le F92.lt pp418)
      have n430 : b6 ≠ op := Nat.ne_of_lt (Nat.lt_of_lt_of_le F95.lt pp418)
      have n431 : pq ≠ op := Nat.ne_of_lt (Nat.lt_of_lt_of_le F60.lt pp418)
      have ge_op : n0 ≤ op := Nat.le_trans Z59 pp418
      have F432 := F63.ext ⟨K415q.1, fun a c q => K415q.2.1 a c q nin0⟩
      have F433 := F64.keep K415q
      have F434 := F65.keep K415q nin0
      have F435 := F66.keep K415q nin0
      have F436 := F67.keep K415q
      have F437 := F68.keep K415q
      have F438 := F69.keep K415q nin0
      have F439 := F70.keep K415q nin0
      have F440 := F71.keep K415q
      have F441 := F72.keep K415q nin0
      have F442 := F73.ext ⟨K415q.1, fun a c q => K415q.2.1 a c q nin0⟩
      have F443 := F74.keep K415q
      have F444 := F75.keep K415q nin0
      have F445 := F76.ext ⟨K415q.1, fun a c q => K415q.2.1 a c q nin0⟩
      have F446 := F77.keep K415q
      have F447 := F78.keep K415q nin0
      have F448 := F79.ext ⟨K415q.1, fun a c q => K415q.2.1 a c q nin0⟩
      have F449 := F80.keep K415q
      have F450 := F81.keep K415q nin0
      have F451 := F82.ext ⟨K415q.1, fun a c q => K415q.2.1 a c q nin0⟩
      have F452 := F83.keep K415q
      have F453 := F84.keep K415q nin0
      have F454 := F85.ext ⟨K415q.1, fun a c q => K415q.2.1 a c q nin0⟩
      have F455 := F86.keep K415q
      have F456 := F87.keep K415q nin0
      have F457 := F88.ext ⟨K415q.1, fun a c q => K415q.2.1 a c q nin0⟩
      have F458 := F89.keep K415q
      have F459 := F90.keep K415q nin0
      have F460 := F91.ext ⟨K415q.1, fun a c q => K415q.2.1 a c q nin0⟩
      have F461 := F92.keep K415q
      have F462 := F93.keep K415q nin0
      have F463 := F94.ext ⟨K415q.1, fun a c q => K415q.2.1 a c q nin0⟩
      have F464 := F95.keep K415q
      have F465 := F96.keep K415q nin0
      have F466 := F60.keep K415q
      have F467 := F61.keep K415q nin0
      have F468 := F62.keep K415q nin0
      have Z415 : n0 ≤ T415.heap.size := Nat.le_trans Z59 K415q.1
      have hk415 : T59.heap.size ≤ T415.heap.size := Nat.le_trans (Nat.le_refl T59.heap.size) K415q.1
      refine own_S (mkF m 105 #[iv sx, iv fx, rv fi, rv un, iv sw, iv df, rv fi, rv un, rv pq, .val (.int 6), rv b6, rv op] []) (fun _ k => XS.astore X415.here hx rfl (hb hby at_103) rfl rfl (l' := #[iv sx, iv fx, rv fi, rv un, iv sw, iv df, rv fi, rv un, rv pq, .val (.int 6), rv b6, rv op]) rfl k) ?_
      refine own_S (mkF m 107 #[iv sx, iv fx, rv fi, rv un, iv sw, iv df, rv fi, rv un, rv pq, .val (.int 6), rv b6, rv op] [(.int 6)]) (fun _ k => XS.iload X415.here hx rfl (hb hby at_105) rfl k) ?_
      have hc469 : ¬ ((6 : Int32) = (0 : Int32)) := by decide
      refine own_S (mkF m 134 #[iv sx, iv fx, rv fi, rv un, iv sw, iv df, rv fi, rv un, rv pq, .val (.int 6), rv b6, rv op] []) (fun _ k => XS.ifYes X415.here hx rfl (pc0 := 107) (pc' := 134) rfl (hb hby at_107) rfl ((if0 _ _).trans (feq hc469).2) (by decide) (by decide) k) ?_
      refine own_S (mkF m 136 #[iv sx, iv fx, rv fi, rv un, iv sw, iv df, rv fi, rv un, rv pq, .val (.int 6), rv b6, rv op] [(.int 6)]) (fun _ k => XS.iload X415.here hx rfl (hb hby at_134) rfl k) ?_
      refine own_S (mkF m 137 #[iv sx, iv fx, rv fi, rv un, iv sw, iv df, rv fi, rv un, rv pq, .val (.int 6), rv b6, rv op] [(.int 1), (.int 6)]) (fun _ k => XS.iconst X415.here hx rfl (hb hby at_136) k) ?_
      have hc470 : ¬ ((6 : Int32) = (1 : Int32)) := by decide
      refine own_S (mkF m 154 #[iv sx, iv fx, rv fi, rv un, iv sw, iv df, rv fi, rv un, rv pq, .val (.int 6), rv b6, rv op] []) (fun _ k => XS.icmpYes X415.here hx rfl (pc0 := 137) (pc' := 154) rfl (hb hby at_137) rfl (feq hc470).2 (by decide) (by decide) k) ?_
      refine own_S (mkF m 156 #[iv sx, iv fx, rv fi, rv un, iv sw, iv df, rv fi, rv un, rv pq, .val (.int 6), rv b6, rv op] [(.ref op)]) (fun _ k => XS.aload X415.here hx rfl (hb hby at_154) rfl rfl k) ?_
      obtain ⟨cq471, kq471, q471a, q471b, q471c⟩ := isOf hZ59 rfl F416
      obtain ⟨_, _, ⟨T471, L471, k471, n471⟩, -, X471, ⟨Lc471, hQ471, l471, y471, z471⟩, st471⟩ := X415.virtualBack hx (y := own_y15) (z := own_y15) hown59 (mvT hZ59 (own_g hw (i := 109) rfl)) (mvT hZ59 (own_g hw (i := 110) rfl)) (notFace_of_selects (args := #[]) (mvT hZ59 (own_g hw (i := 112) rfl))) (mvT hZ59 (own_g hw (i := 112) rfl)) (mvT hZ59 (own_g hw (i := 111) rfl)) (by decide) (backOf (W := 0) (own_rmip1 l Z a0 hw [] (op) (fi) T415.heap n0 Z415 F417) hZ59 (own_g hw (i := 113) rfl) (own_g hw (i := 83) rfl) (by decide) (by decide)) q471a q471c (g := (mkF m 156 #[iv sx, iv fx, rv fi, rv un, iv sw, iv df, rv fi, rv un, rv pq, .val (.int 6), rv b6, rv op] [(.ref op)])) rfl (by rw [hml]; rfl) (Steps.refl _) (argsL := []) (rest := []) (lenOf own_pd___Z rfl) rfl (by show 2 * 0 + _ ≤ _; exact Nat.le_of_eq rfl) (hb hby at_156) (fun _ _ => ⟨rfl, rfl, (by decide : 7 + 0 ≤ _), (by decide : 91 + 0 ≤ _)⟩)
      dsimp only [Pt.U, Pt.locs, Pt.cells, Pt.slots] at X471 l471 y471 z471 st471 hQ471
      subst l471 y471 z471
      obtain ⟨rfl, N471q, e471⟩ := hQ471
      have N471 := Fr.app N415 N471q
      refine own_S (mkF m 159 #[iv sx, iv fx, rv fi, rv un, iv sw, iv df, rv fi, rv un, rv pq, .val (.int 6), rv b6, rv op] [(.int 1)]) (fun _ k => st471.trans k) ?_
      have hc472 : ¬ ((1 : Int32) = (0 : Int32)) := by decide
      refine own_S (mkF m 162 #[iv sx, iv fx, rv fi, rv un, iv sw, iv df, rv fi, rv un, rv pq, .val (.int 6), rv b6, rv op] []) (fun _ k => XS.ifNo X471.here hx rfl (hb hby at_159) rfl ((if0 _ _).trans (feq hc472).1) k) ?_
      refine own_S (mkF m 164 #[iv sx, iv fx, rv fi, rv un, iv sw, iv df, rv fi, rv un, rv pq, .val (.int 6), rv b6, rv op] [(.ref op)]) (fun _ k => XS.aload X471.here hx rfl (hb hby at_162) rfl rfl k) ?_
      obtain ⟨cq473, kq473, q473a, q473b, q473c⟩ := isOf hZ59 e471 F416
      obtain ⟨_, _, ⟨T473, L473, k473, n473⟩, -, X473, ⟨Lc473, hQ473, l473, y473, z473⟩, st473⟩ := X471.virtualBack hx (y := own_y16) (z := own_y16) hown59 (mvT hZ59 (own_g hw (i := 114) rfl)) (mvT hZ59 (own_g hw (i := 115) rfl)) (notFace_of_selects (args := #[]) (mvT hZ59 (own_g hw (i := 117) rfl))) (mvT hZ59 (own_g hw (i := 117) rfl)) (mvT hZ59 (own_g hw (i := 116) rfl)) (by decide) (backOf (W := 0) (own_rmog l Z a0 hw [] (op) (fi) T415.heap n0 Z415 F417) hZ59 (own_g hw (i := 118) rfl) (own_g hw (i := 83) rfl) (by decide) (by decide)) q473a q473c (g := (mkF m 164 #[iv sx, iv fx, rv fi, rv un, iv sw, iv df, rv fi, rv un, rv pq, .val (.int 6), rv b6, rv op] [(.ref op)])) rfl (by rw [hml]; rfl) (Steps.refl _) (argsL := []) (rest := []) (lenOf own_pd___Ljava_lang_Object_ rfl) rfl (by show 2 * 0 + _ ≤ _; exact Nat.le_of_eq rfl) (hb hby at_164) (fun _ _ => ⟨rfl, e471, (by decide : 7 + 0 ≤ _), (by decide : 91 + 0 ≤ _)⟩)
      dsimp only [Pt.U, Pt.locs, Pt.cells, Pt.slots] at X473 l473 y473 z473 st473 hQ473
      subst l473 y473 z473
      obtain ⟨rfl, N473q, e473⟩ := hQ473
      have N473 := Fr.app N471 N473q
      refine own_S (mkF m 167 #[iv sx, iv fx, rv fi, rv un, iv sw, iv df, rv fi, rv un, rv pq, .val (.int 6), rv b6, rv op] [(.ref fi)]) (fun _ k => st473.trans k) ?_
      refine own_S (mkF m 169 #[iv sx, iv fx, rv fi, rv un, iv sw, iv df, rv fi, rv un, rv pq, .val (.int 6), rv b6, rv op] [(.ref fi), (.ref fi)]) (fun _ k => XS.aload X473.here hx rfl (hb hby at_167) rfl rfl k) ?_
      have hc474 : fi = fi := rfl
      refine own_S (mkF m 172 #[iv sx, iv fx, rv fi, rv un, iv sw, iv df, rv fi, rv un, rv pq, .val (.int 6), rv b6, rv op] []) (fun _ k => acmp X473 hx rfl rfl rfl (pc0 := 169) (pc' := 172) (same := true) rfl (hb hby at_169) rfl (by simp [hc474]) (by decide) (by decide) k) ?_
      refine own_S (mkF m 173 #[iv sx, iv fx, rv fi, rv un, iv sw, iv df, rv fi, rv un, rv pq, .val (.int 6), rv b6, rv op] [(.int 1)]) (fun _ k => XS.iconst X473.here hx rfl (hb hby at_172) k) ?_
      refine own_S (mkF m 177 #[iv sx, iv fx, rv fi, rv un, iv sw, iv df, rv fi, rv un, rv pq, .val (.int 6), rv b6, rv op] [(.int 1)]) (fun _ k => XS.goto X473.here hx rfl (pc0 := 173) (pc' := 177) rfl (hb hby at_173) (by decide) (by decide) k) ?_
      exact own_retWN (vm₁ := T59.vm) X473 hS59 (show _ ≤ T473.heap.size by rw [e473]; exact hk415) hx hlk (t := .boolean) hret (by simp) (hb hby at_177) (by rw [e473]; exact ⟨rfl, N473, trivial⟩) (by decide) (by decide)
  · -- not sw = (0 : Int32)
    refine own_S (mkF m 45 #[iv sx, iv fx, rv fi, rv un, iv sw, iv df, .unset, .unset, .unset, .unset, .unset, .unset] []) (fun _ k => XS.ifNo X4.here hx rfl (hb hby at_42) rfl ((if0 _ _).trans (feq hsw).1) k) ?_
    refine own_S (mkF m 46 #[iv sx, iv fx, rv fi, rv un, iv sw, iv df, .unset, .unset, .unset, .unset, .unset, .unset] [(.ref un)]) (fun _ k => XS.aloadN X4.here hx rfl (hb hby at_45) rfl rfl k) ?_
    refine own_S (mkF m 50 #[iv sx, iv fx, rv fi, rv un, iv sw, iv df, .unset, .unset, .unset, .unset, .unset, .unset] [(.ref un)]) (fun _ k => XS.goto X4.here hx rfl (pc0 := 46) (pc' := 50) rfl (hb hby at_46) (by decide) (by decide) k) ?_
    refine own_S (mkF m 52 #[iv sx, iv fx, rv fi, rv un, iv sw, iv df, rv un, .unset, .unset, .unset, .unset, .unset] []) (fun _ k => XS.astore X4.here hx rfl (hb hby at_50) rfl rfl (l' := #[iv sx, iv fx, rv fi, rv un, iv sw, iv df, rv un, .unset, .unset, .unset, .unset, .unset]) rfl k) ?_
    refine own_S (mkF m 54 #[iv sx, iv fx, rv fi, rv un, iv sw, iv df, rv un, .unset, .unset, .unset, .unset, .unset] [(.int sw)]) (fun _ k => XS.iload X4.here hx rfl (hb hby at_52) rfl k) ?_
    have hc475 : ¬ (sw = (0 : Int32)) := hsw
    refine own_S (mkF m 57 #[iv sx, iv fx, rv fi, rv un, iv sw, iv df, rv un, .unset, .unset, .unset, .unset, .unset] []) (fun _ k => XS.ifNo X4.here hx rfl (hb hby at_54) rfl ((if0 _ _).trans (feq hc475).1) k) ?_
    refine own_S (mkF m 58 #[iv sx, iv fx, rv fi, rv un, iv sw, iv df, rv un, .unset, .unset, .unset, .unset, .unset] [(.ref fi)]) (fun _ k => XS.aloadN X4.here hx rfl (hb hby at_57) rfl rfl k) ?_
    refine own_S (mkF m 62 #[iv sx, iv fx, rv fi, rv un, iv sw, iv df, rv un, .unset, .unset, .unset, .unset, .unset] [(.ref fi)]) (fun _ k => XS.goto X4.here hx rfl (pc0 := 58) (pc' := 62) rfl (hb hby at_58) (by decide) (by decide) k) ?_
    refine own_S (mkF m 64 #[iv sx, iv fx, rv fi, rv un, iv sw, iv df, rv un, rv fi, .unset, .unset, .unset, .unset] []) (fun _ k => XS.astore X4.here hx rfl (hb hby at_62) rfl rfl (l' := #[iv sx, iv fx, rv fi, rv un, iv sw, iv df, rv un, rv fi, .unset, .unset, .unset, .unset]) rfl k) ?_
    obtain ⟨T476, h476, X476, e476, E476, A476, D476, -, st476⟩ := newO X4 hx hZ hown (own_g hw (i := 17) rfl) (own_g hw (i := 18) rfl) (own_g hw (i := 1) rfl) e4 (g := (mkF m 64 #[iv sx, iv fx, rv fi, rv un, iv sw, iv df, rv un, rv fi, .unset, .unset, .unset, .unset] [])) rfl (hb hby at_64) (by decide) (by decide)
    obtain ⟨pq, g476⟩ : ∃ z, z = h0.size := ⟨_, rfl⟩
    rw [← g476] at A476 D476 st476
    have n477 : qd ≠ pq := Nat.ne_of_lt (Nat.lt_of_lt_of_eq P1.lt g476.symm)
    have n478 : fi ≠ pq := Nat.ne_of_lt (Nat.lt_of_lt_of_eq P4.lt g476.symm)
    have n479 : un ≠ pq := Nat.ne_of_lt (Nat.lt_of_lt_of_eq P5.lt g476.symm)
    have n480 : dl ≠ pq := Nat.ne_of_lt (Nat.lt_of_lt_of_eq P8.lt g476.symm)
    have n481 : em ≠ pq := Nat.ne_of_lt (Nat.lt_of_lt_of_eq P11.lt g476.symm)
    have n482 : b0 ≠ pq := Nat.ne_of_lt (Nat.lt_of_lt_of_eq P14.lt g476.symm)
    have n483 : b1 ≠ pq := Nat.ne_of_lt (Nat.lt_of_lt_of_eq P17.lt g476.symm)
    have n484 : b2 ≠ pq := Nat.ne_of_lt (Nat.lt_of_lt_of_eq P20.lt g476.symm)
    have n485 : b3 ≠ pq := Nat.ne_of_lt (Nat.lt_of_lt_of_eq P23.lt g476.symm)
    have n486 : b4 ≠ pq := Nat.ne_of_lt (Nat.lt_of_lt_of_eq P26.lt g476.symm)
    have n487 : b5 ≠ pq := Nat.ne_of_lt (Nat.lt_of_lt_of_eq P29.lt g476.symm)
    have n488 : b6 ≠ pq := Nat.ne_of_lt (Nat.lt_of_lt_of_eq P32.lt g476.symm)
    have ge_pq : n0 ≤ pq := Nat.le_trans Z0 (Nat.le_of_eq g476.symm)
    have F489 := P0.ext E476
    have F490 := P1.ext E476
    have F491 := P2.ext E476
    have F492 := P3.ext E476
    have F493 := P4.ext E476
    have F494 := P5.ext E476
    have F495 := P6.ext E476
    have F496 := P7.ext E476
    have F497 := P8.ext E476
    have F498 := P9.ext E476
    have F499 := P10.ext E476
    have F500 := P11.ext E476
    have F501 := P12.ext E476
    have F502 := P13.ext E476
    have F503 := P14.ext E476
    have F504 := P15.ext E476
    have F505 := P16.ext E476
    have F506 := P17.ext E476
    have F507 := P18.ext E476
    have F508 := P19.ext E476
    have F509 := P20.ext E476
    have F510 := P21.ext E476
    have F511 := P22.ext E476
    have F512 := P23.ext E476
    have F513 := P24.ext E476
    have F514 := P25.ext E476
    have F515 := P26.ext E476
    have F516 := P27.ext E476
    have F517 := P28.ext E476
    have F518 := P29.ext E476
    have F519 := P30.ext E476
    have F520 := P31.ext E476
    have F521 := P32.ext E476
    have F522 := P33.ext E476
    have Z476 : n0 ≤ h476.size := Nat.le_trans Z0 E476.1
    have F523 : Fld Z h476 pq "com/example/purgatory/purgatory/model/QueueRetentionPolicy" "finished" "Lcom/example/purgatory/purgatory/model/Retention;" .null := D476 (Or.inr (own_g hw (i := 9) rfl)) (ty := (.object "com/example/purgatory/purgatory/model/Retention")) (by decide)
    have F524 : Fld Z h476 pq "com/example/purgatory/purgatory/model/QueueRetentionPolicy" "unprocessed" "Lcom/example/purgatory/purgatory/model/Retention;" .null := D476 (Or.inr (own_g hw (i := 16) rfl)) (ty := (.object "com/example/purgatory/purgatory/model/Retention")) (by decide)
    have F525 : Fld Z h476 pq "com/example/purgatory/purgatory/model/QueueRetentionPolicy" "bucketId" "Ljava/lang/Long;" .null := D476 (Or.inr (own_g hw (i := 65) rfl)) (ty := (.object "java/lang/Long")) (by decide)
    have F526 : Fld Z h476 pq "com/example/purgatory/purgatory/model/QueueRetentionPolicy" "isDefault" "Z" (.int (0 : Int32)) := D476 (Or.inr (own_g hw (i := 67) rfl)) (ty := .boolean) (by decide)
    refine own_S (mkF m 67 #[iv sx, iv fx, rv fi, rv un, iv sw, iv df, rv un, rv fi, .unset, .unset, .unset, .unset] [(.ref pq)]) st476 ?_
    refine own_S (mkF m 68 #[iv sx, iv fx, rv fi, rv un, iv sw, iv df, rv un, rv fi, .unset, .unset, .unset, .unset] [(.ref pq), (.ref pq)]) (fun _ k => XS.dup X476.here hx rfl (hb hby at_67) rfl rfl k) ?_
    refine own_S (mkF m 70 #[iv sx, iv fx, rv fi, rv un, iv sw, iv df, rv un, rv fi, .unset, .unset, .unset, .unset] [(.ref un), (.ref pq), (.ref pq)]) (fun _ k => XS.aload X476.here hx rfl (hb hby at_68) rfl rfl k) ?_
    refine own_S (mkF m 72 #[iv sx, iv fx, rv fi, rv un, iv sw, iv df, rv un, rv fi, .unset, .unset, .unset, .unset] [(.ref fi), (.ref un), (.ref pq), (.ref pq)]) (fun _ k => XS.aload X476.here hx rfl (hb hby at_70) rfl rfl k) ?_
    refine own_S (mkF m 73 #[iv sx, iv fx, rv fi, rv un, iv sw, iv df, rv un, rv fi, .unset, .unset, .unset, .unset] [.null, (.ref fi), (.ref un), (.ref pq), (.ref pq)]) (fun _ k => XS.aconstNull X476.here hx rfl (hb hby at_72) k) ?_
    refine own_S (mkF m 75 #[iv sx, iv fx, rv fi, rv un, iv sw, iv df, rv un, rv fi, .unset, .unset, .unset, .unset] [(.int df), .null, (.ref fi), (.ref un), (.ref pq), (.ref pq)]) (fun _ k => XS.iload X476.here hx rfl (hb hby at_73) rfl k) ?_
    obtain ⟨_, _, ⟨T527, L527, k527, n527⟩, -, Xa527, hSa527, hg527, ⟨Lc527, hQ527, l527, y527, z527⟩, st527⟩ := X476.specialBackS hx (y := own_y9) rfl hown (mvT hZ (own_g hw (i := 19) rfl)) (mvT hZ (own_g hw (i := 20) rfl)) (mvT hZ (own_g hw (i := 21) rfl)) (by decide) (backOfS (W := 1) (own_rmqi l Z a0 hw [] (pq) (un) (fi) (dl) (df) h476 n0 Z476 A476 F523 F524 F525 F526 F494 F493 F496 F495 F497 F498 ge_pq) hZ (own_g hw (i := 21) rfl) (own_g hw (i := 1) rfl) (by decide) (by decide)) (g := (mkF m 75 #[iv sx, iv fx, rv fi, rv un, iv sw, iv df, rv un, rv fi, .unset, .unset, .unset, .unset] [(.int df), .null, (.ref fi), (.ref un), (.ref pq), (.ref pq)])) rfl (by rw [hml]; rfl) (Steps.refl _) (a := pq) (argsL := [(.ref un), (.ref fi), .null, (.int df)]) (rest := [(.ref pq)]) (lenOf own_pd__Lcom_example_purgatory_purgatory_model_Retention_Lcom_example_purgatory_purgatory_model_Retention_Ljava_lang_Long_Z_V rfl) rfl (by show 2 * 0 + _ ≤ _; exact Nat.le_of_eq rfl) (hb hby at_75) (fun _ _ => ⟨rfl, e476, (by decide : 1 + 5 ≤ _), (by decide : 4 + 86 ≤ _)⟩)
    dsimp only [Pt.U, Pt.locs, Pt.cells, Pt.slots] at Xa527 hSa527 hg527 l527 y527 z527 st527 hQ527
    obtain ⟨X527, hS527, hZ527, hown527⟩ := rebS (vm0 := s.vm) (n1 := T476.heap.size) ((State.WarmedH.refl s).since 0) (Nat.zero_le _) Xa527 hSa527 hg527 hZ hown
    subst l527 y527 z527
    obtain ⟨rfl, N527q, K527q, F528, F529, F530⟩ := hQ527
    have N527 := Fr.app N4 N527q
    refine own_S (mkF m 78 #[iv sx, iv fx, rv fi, rv un, iv sw, iv df, rv un, rv fi, .unset, .unset, .unset, .unset] [(.ref pq)]) (fun _ k => st527.trans k) ?_
    have F531 := Sta_keep (n0 := 0) F489 K527q ((own_allS (old_plain F526) (fun _ q => nomatch q)))
    have F532 := F490.keep K527q
    have F533 := F491.keep K527q (ninS n477 nin0)
    have F534 := F492.keep K527q (ninS n477 nin0)
    have F535 := F493.keep K527q
    have F536 := F494.keep K527q
    have F537 := F495.keep K527q (ninS n478 nin0)
    have F538 := F496.keep K527q (ninS n479 nin0)
    have F539 := F497.keep K527q
    have F540 := F498.keep K527q (ninS n480 nin0)
    have F541 := Sta_keep (n0 := 0) F499 K527q ((own_allS (old_plain F526) (fun _ q => nomatch q)))
    have F542 := F500.keep K527q
    have F543 := F501.keep K527q (ninS n481 nin0)
    have F544 := Sta_keep (n0 := 0) F502 K527q ((own_allS (old_plain F526) (fun _ q => nomatch q)))
    have F545 := F503.keep K527q
    have F546 := F504.keep K527q (ninS n482 nin0)
    have F547 := Sta_keep (n0 := 0) F505 K527q ((own_allS (old_plain F526) (fun _ q => nomatch q)))
    have F548 := F506.keep K527q
    have F549 := F507.keep K527q (ninS n483 nin0)
    have F550 := Sta_keep (n0 := 0) F508 K527q ((own_allS (old_plain F526) (fun _ q => nomatch q)))
    have F551 := F509.keep K527q
    have F552 := F510.keep K527q (ninS n484 nin0)
    have F553 := Sta_keep (n0 := 0) F511 K527q ((own_allS (old_plain F526) (fun _ q => nomatch q)))
    have F554 := F512.keep K527q
    have F555 := F513.keep K527q (ninS n485 nin0)
    have F556 := Sta_keep (n0 := 0) F514 K527q ((own_allS (old_plain F526) (fun _ q => nomatch q)))
    have F557 := F515.keep K527q
    have F558 := F516.keep K527q (ninS n486 nin0)
    have F559 := Sta_keep (n0 := 0) F517 K527q ((own_allS (old_plain F526) (fun _ q => nomatch q)))
    have F560 := F518.keep K527q
    have F561 := F519.keep K527q (ninS n487 nin0)
    have F562 := Sta_keep (n0 := 0) F520 K527q ((own_allS (old_plain F526) (fun _ q => nomatch q)))
    have F563 := F521.keep K527q
    have F564 := F522.keep K527q (ninS n488 nin0)
    have Z527 : n0 ≤ T527.heap.size := Nat.le_trans Z476 K527q.1
    refine own_S (mkF m 80 #[iv sx, iv fx, rv fi, rv un, iv sw, iv df, rv un, rv fi, rv pq, .unset, .unset, .unset] []) (fun _ k => XS.astore X527.here hx rfl (hb hby at_78) rfl rfl (l' := #[iv sx, iv fx, rv fi, rv un, iv sw, iv df, rv un, rv fi, rv pq, .unset, .unset, .unset]) rfl k) ?_
    refine own_S (mkF m 81 #[iv sx, iv fx, rv fi, rv un, iv sw, iv df, rv un, rv fi, rv pq, .unset, .unset, .unset] [(.int sx)]) (fun _ k => XS.iloadN X527.here hx rfl (hb hby at_80) rfl k) ?_
    refine own_S (mkF m 83 #[iv sx, iv fx, rv fi, rv un, iv sw, iv df, rv un, rv fi, rv pq, .unset, .unset, .unset] [(.int 2147483647), (.int sx)]) (fun _ k => X527.ldcInt hx hown527 (mvT hZ527 (own_g hw (i := 68) rfl)) (g := (mkF m 81 #[iv sx, iv fx, rv fi, rv un, iv sw, iv df, rv un, rv fi, rv pq, .unset, .unset, .unset] [(.int sx)])) rfl (hb hby at_81) _ k) ?_
    refine own_S (mkF m 84 #[iv sx, iv fx, rv fi, rv un, iv sw, iv df, rv un, rv fi, rv pq, .unset, .unset, .unset] [(.int (sx &&& (2147483647 : Int32)))]) (fun _ k => XS.iand X527.here hx rfl (hb hby at_83) rfl k) ?_
    refine own_S (mkF m 86 #[iv sx, iv fx, rv fi, rv un, iv sw, iv df, rv un, rv fi, rv pq, .unset, .unset, .unset] [(.int 7), (.int (sx &&& (2147483647 : Int32)))]) (fun _ k => XS.bipush X527.here hx rfl (hb hby at_84) k) ?_
    refine own_S (mkF m 87 #[iv sx, iv fx, rv fi, rv un, iv sw, iv df, rv un, rv fi, rv pq, .unset, .unset, .unset] [(.int ((sx &&& (2147483647 : Int32)) % (7 : Int32)))]) (fun _ k => iremM X527 hx rfl (hb hby at_86) rfl (by decide) k) ?_
    refine own_S (mkF m 89 #[iv sx, iv fx, rv fi, rv un, iv sw, iv df, rv un, rv fi, rv pq, iv ((sx &&& (2147483647 : Int32)) % (7 : Int32)), .unset, .unset] []) (fun _ k => XS.istore X527.here hx rfl (hb hby at_87) rfl (l' := #[iv sx, iv fx, rv fi, rv un, iv sw, iv df, rv un, rv fi, rv pq, iv ((sx &&& (2147483647 : Int32)) % (7 : Int32)), .unset, .unset]) rfl k) ?_
    obtain ⟨kk, h_kk⟩ : ∃ z : Int32, z = ((sx &&& (2147483647 : Int32)) % (7 : Int32)) := ⟨_, rfl⟩
    refine own_S (T' := T527) (mkF m 89 #[iv sx, iv fx, rv fi, rv un, iv sw, iv df, rv un, rv fi, rv pq, iv kk, .unset, .unset] []) (fun _ k => by subst h_kk; exact k) ?_
    have o_kk := own_m7 sx kk h_kk
    rcases o_kk with q565_0 | q566_1 | q567_2 | q568_3 | q569_4 | q570_5 | q571_6
    · -- kk = 0
      subst q565_0
      refine own_S (mkF m 91 #[iv sx, iv fx, rv fi, rv un, iv sw, iv df, rv un, rv fi, rv pq, .val (.int 0), .unset, .unset] [(.int 0)]) (fun _ k => XS.iload X527.here hx rfl (hb hby at_89) rfl k) ?_
      obtain ⟨_, _, ⟨T572, L572, k572, n572⟩, -, X572, ⟨Lc572, hQ572, l572, y572, z572⟩, st572⟩ := Jvm.LawKit.callS X527 hx (y := own_y10) hown527 (mvT hZ527 (own_g hw (i := 69) rfl)) (mvT hZ527 (own_g hw (i := 70) rfl)) (mvT hZ527 (own_g hw (i := 71) rfl)) (mvT hZ527 (own_g hw (i := 72) rfl)) (by decide) (backOf (W := 0) (own_rmst0 l Z a0 hw [] (b0) T527.heap n0 Z527 F544) hZ527 (own_g hw (i := 72) rfl) (own_g hw (i := 71) rfl) (by decide) (by decide)) (g := (mkF m 91 #[iv sx, iv fx, rv fi, rv un, iv sw, iv df, rv un, rv fi, rv pq, .val (.int 0), .unset, .unset] [(.int 0)])) rfl (by rw [hml]; rfl) (argsL := [(.int 0)]) (rest := []) (lenOf own_pd__I_Lcom_example_purgatory_purgatory_model_QueueItemStatus_ rfl) rfl (by show 2 * 0 + _ ≤ _; exact Nat.le_of_eq rfl) (hb hby at_91) (fun _ _ => ⟨rfl, rfl, (by decide : 6 + 0 ≤ _), (by decide : 90 + 0 ≤ _)⟩)
      dsimp only [Pt.U, Pt.locs, Pt.cells, Pt.slots] at X572 l572 y572 z572 st572 hQ572
      subst l572 y572 z572
      obtain ⟨rfl, N572q, e572⟩ := hQ572
      have N572 := Fr.app N527 N572q
      refine own_S (mkF m 94 #[iv sx, iv fx, rv fi, rv un, iv sw, iv df, rv un, rv fi, rv pq, .val (.int 0), .unset, .unset] [(.ref b0)]) (fun _ k => st572 _ k) ?_
      refine own_S (mkF m 96 #[iv sx, iv fx, rv fi, rv un, iv sw, iv df, rv un, rv fi, rv pq, .val (.int 0), rv b0, .unset] []) (fun _ k => XS.astore X572.here hx rfl (hb hby at_94) rfl rfl (l' := #[iv sx, iv fx, rv fi, rv un, iv sw, iv df, rv un, rv fi, rv pq, .val (.int 0), rv b0, .unset]) rfl k) ?_
      refine own_S (mkF m 98 #[iv sx, iv fx, rv fi, rv un, iv sw, iv df, rv un, rv fi, rv pq, .val (.int 0), rv b0, .unset] [(.ref pq)]) (fun _ k => XS.aload X572.here hx rfl (hb hby at_96) rfl rfl k) ?_
      refine own_S (mkF m 100 #[iv sx, iv fx, rv fi, rv un, iv sw, iv df, rv un, rv fi, rv pq, .val (.int 0), rv b0, .unset] [(.ref b0), (.ref pq)]) (fun _ k => XS.aload X572.here hx rfl (hb hby at_98) rfl rfl k) ?_
      obtain ⟨cq573, kq573, q573a, q573b, q573c⟩ := isOf hZ527 e572 F528
      obtain ⟨_, _, ⟨T573, L573, k573, n573⟩, -, X573, ⟨Lc573, hQ573, l573, y573, z573⟩, st573⟩ := X572.virtualBack hx (y := own_y14) (z := own_y14) hown527 (mvT hZ527 (own_g hw (i := 76) rfl)) (mvT hZ527 (own_g hw (i := 77) rfl)) (notFace_of_selects (args := #[]) (mvT hZ527 (own_g hw (i := 79) rfl))) (mvT hZ527 (own_g hw (i := 79) rfl)) (mvT hZ527 (own_g hw (i := 78) rfl)) (by decide) (backOf (W := 0) (own_rmr2 l Z a0 hw [] (pq) (b0) (fi) (em) T527.heap n0 Z527 F545 F546 F530 F541 F544) hZ527 (own_g hw (i := 80) rfl) (own_g hw (i := 1) rfl) (by decide) (by decide)) q573a q573c (g := (mkF m 100 #[iv sx, iv fx, rv fi, rv un, iv sw, iv df, rv un, rv fi, rv pq, .val (.int 0), rv b0, .unset] [(.ref b0), (.ref pq)])) rfl (by rw [hml]; rfl) (Steps.refl _) (argsL := [(.ref b0)]) (rest := []) (lenOf own_pd__Lcom_example_purgatory_purgatory_model_QueueItemStatus__Ljava_util_Optional_ rfl) rfl (by show 2 * 0 + _ ≤ _; exact Nat.le_of_eq rfl) (hb hby at_100) (fun _ _ => ⟨rfl, e572, (by decide : 6 + 1 ≤ _), (by decide : 90 + 1 ≤ _)⟩)
      dsimp only [Pt.U, Pt.locs, Pt.cells, Pt.slots] at X573 l573 y573 z573 st573 hQ573
      subst l573 y573 z573
      obtain ⟨op, rfl, N573q, K573q, F574, F575, pp576⟩ := hQ573
      have N573 := Fr.app N572 N573q
      refine own_S (mkF m 103 #[iv sx, iv fx, rv fi, rv un, iv sw, iv df, rv un, rv fi, rv pq, .val (.int 0), rv b0, .unset] [(.ref op)]) (fun _ k => st573.trans k) ?_
      have n577 : qd ≠ op := Nat.ne_of_lt (Nat.lt_of_lt_of_le F532.lt pp576)
      have n578 : fi ≠ op := Nat.ne_of_lt (Nat.lt_of_lt_of_le F535.lt pp576)
      have n579 : un ≠ op := Nat.ne_of_lt (Nat.lt_of_lt_of_le F536.lt pp576)
      have n580 : dl ≠ op := Nat.ne_of_lt (Nat.lt_of_lt_of_le F539.lt pp576)
      have n581 : em ≠ op := Nat.ne_of_lt (Nat.lt_of_lt_of_le F542.lt pp576)
      have n582 : b0 ≠ op := Nat.ne_of_lt (Nat.lt_of_lt_of_le F545.lt pp576)
      have n583 : b1 ≠ op := Nat.ne_of_lt (Nat.lt_of_lt_of_le F548.lt pp576)
      have n584 : b2 ≠ op := Nat.ne_of_lt (Nat.lt_of_lt_of_le F551.lt pp576)
      have n585 : b3 ≠ op := Nat.ne_of_lt (Nat.lt_of_lt_of_le F554.lt pp576)
      have n586 : b4 ≠ op := Nat.ne_of_lt (Nat.lt_of_lt_of_le F557.lt pp576)
      have n587 : b5 ≠ op := Nat.ne_of_lt (Nat.lt_of_lt_of_le F560.lt pp576)
      have n588 : b6 ≠ op := Nat.ne_of_lt (Nat.lt_of_lt_of_le F563.lt pp576)
      have n589 : pq ≠ op := Nat.ne_of_lt (Nat.lt_of_lt_of_le F528.lt pp576)
      have ge_op : n0 ≤ op := Nat.le_trans Z527 pp576
      have F590 := F531.ext ⟨K573q.1, fun a c q => K573q.2.1 a c q nin0⟩
      have F591 := F532.keep K573q
      have F592 := F533.keep K573q nin0
      have F593 := F534.keep K573q nin0
      have F594 := F535.keep K573q
      have F595 := F536.keep K573q
      have F596 := F537.keep K573q nin0
      have F597 := F538.keep K573q nin0
      have F598 := F539.keep K573q
      have F599 := F540.keep K573q nin0
      have F600 := F541.ext ⟨K573q.1, fun a c q => K573q.2.1 a c q nin0⟩
      have F601 := F542.keep K573q
      have F602 := F543.keep K573q nin0
      have F603 := F544.ext ⟨K573q.1, fun a c q => K573q.2.1 a c q nin0⟩
      have F604 := F545.keep K573q
      have F605 := F546.keep K573q nin0
      have F606 := F547.ext ⟨K573q.1, fun a c q => K573q.2.1 a c q nin0⟩
      have F607 := F548.keep K573q
      have F608 := F549.keep K573q nin0
      have F609 := F550.ext ⟨K573q.1, fun a c q => K573q.2.1 a c q nin0⟩
      have F610 := F551.keep K573q
      have F611 := F552.keep K573q nin0
      have F612 := F553.ext ⟨K573q.1, fun a c q => K573q.2.1 a c q nin0⟩
      have F613 := F554.keep K573q
      have F614 := F555.keep K573q nin0
      have F615 := F556.ext ⟨K573q.1, fun a c q => K573q.2.1 a c q nin0⟩
      have F616 := F557.keep K573q
      have F617 := F558.keep K573q nin0
      have F618 := F559.ext ⟨K573q.1, fun a c q => K573q.2.1 a c q nin0⟩
      have F619 := F560.keep K573q
      have F620 := F561.keep K573q nin0
      have F621 := F562.ext ⟨K573q.1, fun a c q => K573q.2.1 a c q nin0⟩
      have F622 := F563.keep K573q
      have F623 := F564.keep K573q nin0
      have F624 := F528.keep K573q
      have F625 := F529.keep K573q nin0
      have F626 := F530.keep K573q nin0
      have Z573 : n0 ≤ T573.heap.size := Nat.le_trans Z527 K573q.1
      have hk573 : T527.heap.size ≤ T573.heap.size := Nat.le_trans (Nat.le_refl T527.heap.size) K573q.1
      refine own_S (mkF m 105 #[iv sx, iv fx, rv fi, rv un, iv sw, iv df, rv un, rv fi, rv pq, .val (.int 0), rv b0, rv op] []) (fun _ k => XS.astore X573.here hx rfl (hb hby at_103) rfl rfl (l' := #[iv sx, iv fx, rv fi, rv un, iv sw, iv df, rv un, rv fi, rv pq, .val (.int 0), rv b0, rv op]) rfl k) ?_
      refine own_S (mkF m 107 #[iv sx, iv fx, rv fi, rv un, iv sw, iv df, rv un, rv fi, rv pq, .val (.int 0), rv b0, rv op] [(.int 0)]) (fun _ k => XS.iload X573.here hx rfl (hb hby at_105) rfl k) ?_
      have hc627 : (0 : Int32) = (0 : Int32) := by decide
      refine own_S (mkF m 110 #[iv sx, iv fx, rv fi, rv un, iv sw, iv df, rv un, rv fi, rv pq, .val (.int 0), rv b0, rv op] []) (fun _ k => XS.ifNo X573.here hx rfl (hb hby at_107) rfl ((if0 _ _).trans (teq hc627).2) k) ?_
      refine own_S (mkF m 112 #[iv sx, iv fx, rv fi, rv un, iv sw, iv df, rv un, rv fi, rv pq, .val (.int 0), rv b0, rv op] [(.ref op)]) (fun _ k => XS.aload X573.here hx rfl (hb hby at_110) rfl rfl k) ?_
      obtain ⟨cq628, kq628, q628a, q628b, q628c⟩ := isOf hZ527 rfl F574
      obtain ⟨_, _, ⟨T628, L628, k628, n628⟩, -, X628, ⟨Lc628, hQ628, l628, y628, z628⟩, st628⟩ := X573.virtualBack hx (y := own_y15) (z := own_y15) hown527 (mvT hZ527 (own_g hw (i := 109) rfl)) (mvT hZ527 (own_g hw (i := 110) rfl)) (notFace_of_selects (args := #[]) (mvT hZ527 (own_g hw (i := 112) rfl))) (mvT hZ527 (own_g hw (i := 112) rfl)) (mvT hZ527 (own_g hw (i := 111) rfl)) (by decide) (backOf (W := 0) (own_rmip1 l Z a0 hw [] (op) (fi) T573.heap n0 Z573 F575) hZ527 (own_g hw (i := 113) rfl) (own_g hw (i := 83) rfl) (by decide) (by decide)) q628a q628c (g := (mkF m 112 #[iv sx, iv fx, rv fi, rv un, iv sw, iv df, rv un, rv fi, rv pq, .val (.int 0), rv b0, rv op] [(.ref op)])) rfl (by rw [hml]; rfl) (Steps.refl _) (argsL := []) (rest := []) (lenOf own_pd___Z rfl) rfl (by show 2 * 0 + _ ≤ _; exact Nat.le_of_eq rfl) (hb hby at_112) (fun _ _ => ⟨rfl, rfl, (by decide : 7 + 0 ≤ _), (by decide : 91 + 0 ≤ _)⟩)
      dsimp only [Pt.U, Pt.locs, Pt.cells, Pt.slots] at X628 l628 y628 z628 st628 hQ628
      subst l628 y628 z628
      obtain ⟨rfl, N628q, e628⟩ := hQ628
      have N628 := Fr.app N573 N628q
      refine own_S (mkF m 115 #[iv sx, iv fx, rv fi, rv un, iv sw, iv df, rv un, rv fi, rv pq, .val (.int 0), rv b0, rv op] [(.int 1)]) (fun _ k => st628.trans k) ?_
      have hc629 : ¬ ((1 : Int32) = (0 : Int32)) := by decide
      refine own_S (mkF m 118 #[iv sx, iv fx, rv fi, rv un, iv sw, iv df, rv un, rv fi, rv pq, .val (.int 0), rv b0, rv op] []) (fun _ k => XS.ifNo X628.here hx rfl (hb hby at_115) rfl ((if0 _ _).trans (feq hc629).1) k) ?_
      refine own_S (mkF m 120 #[iv sx, iv fx, rv fi, rv un, iv sw, iv df, rv un, rv fi, rv pq, .val (.int 0), rv b0, rv op] [(.ref op)]) (fun _ k => XS.aload X628.here hx rfl (hb hby at_118) rfl rfl k) ?_
      obtain ⟨cq630, kq630, q630a, q630b, q630c⟩ := isOf hZ527 e628 F574
      obtain ⟨_, _, ⟨T630, L630, k630, n630⟩, -, X630, ⟨Lc630, hQ630, l630, y630, z630⟩, st630⟩ := X628.virtualBack hx (y := own_y16) (z := own_y16) hown527 (mvT hZ527 (own_g hw (i := 114) rfl)) (mvT hZ527 (own_g hw (i := 115) rfl)) (notFace_of_selects (args := #[]) (mvT hZ527 (own_g hw (i := 117) rfl))) (mvT hZ527 (own_g hw (i := 117) rfl)) (mvT hZ527 (own_g hw (i := 116) rfl)) (by decide) (backOf (W := 0) (own_rmog l Z a0 hw [] (op) (fi) T573.heap n0 Z573 F575) hZ527 (own_g hw (i := 118) rfl) (own_g hw (i := 83) rfl) (by decide) (by decide)) q630a q630c (g := (mkF m 120 #[iv sx, iv fx, rv fi, rv un, iv sw, iv df, rv un, rv fi, rv pq, .val (.int 0), rv b0, rv op] [(.ref op)])) rfl (by rw [hml]; rfl) (Steps.refl _) (argsL := []) (rest := []) (lenOf own_pd___Ljava_lang_Object_ rfl) rfl (by show 2 * 0 + _ ≤ _; exact Nat.le_of_eq rfl) (hb hby at_120) (fun _ _ => ⟨rfl, e628, (by decide : 7 + 0 ≤ _), (by decide : 91 + 0 ≤ _)⟩)
      dsimp only [Pt.U, Pt.locs, Pt.cells, Pt.slots] at X630 l630 y630 z630 st630 hQ630
      subst l630 y630 z630
      obtain ⟨rfl, N630q, e630⟩ := hQ630
      have N630 := Fr.app N628 N630q
      refine own_S (mkF m 123 #[iv sx, iv fx, rv fi, rv un, iv sw, iv df, rv un, rv fi, rv pq, .val (.int 0), rv b0, rv op] [(.ref fi)]) (fun _ k => st630.trans k) ?_
      refine own_S (mkF m 125 #[iv sx, iv fx, rv fi, rv un, iv sw, iv df, rv un, rv fi, rv pq, .val (.int 0), rv b0, rv op] [(.ref fi), (.ref fi)]) (fun _ k => XS.aload X630.here hx rfl (hb hby at_123) rfl rfl k) ?_
      have hc631 : fi = fi := rfl
      refine own_S (mkF m 128 #[iv sx, iv fx, rv fi, rv un, iv sw, iv df, rv un, rv fi, rv pq, .val (.int 0), rv b0, rv op] []) (fun _ k => acmp X630 hx rfl rfl rfl (pc0 := 125) (pc' := 128) (same := true) rfl (hb hby at_125) rfl (by simp [hc631]) (by decide) (by decide) k) ?_
      refine own_S (mkF m 129 #[iv sx, iv fx, rv fi, rv un, iv sw, iv df, rv un, rv fi, rv pq, .val (.int 0), rv b0, rv op] [(.int 1)]) (fun _ k => XS.iconst X630.here hx rfl (hb hby at_128) k) ?_
      refine own_S (mkF m 133 #[iv sx, iv fx, rv fi, rv un, iv sw, iv df, rv un, rv fi, rv pq, .val (.int 0), rv b0, rv op] [(.int 1)]) (fun _ k => XS.goto X630.here hx rfl (pc0 := 129) (pc' := 133) rfl (hb hby at_129) (by decide) (by decide) k) ?_
      exact own_retWN (vm₁ := T527.vm) X630 hS527 (show _ ≤ T630.heap.size by rw [e630]; exact hk573) hx hlk (t := .boolean) hret (by simp) (hb hby at_133) (by rw [e630]; exact ⟨rfl, N630, trivial⟩) (by decide) (by decide)
    · -- kk = 1
      subst q566_1
      refine own_S (mkF m 91 #[iv sx, iv fx, rv fi, rv un, iv sw, iv df, rv un, rv fi, rv pq, .val (.int 1), .unset, .unset] [(.int 1)]) (fun _ k => XS.iload X527.here hx rfl (hb hby at_89) rfl k) ?_
      obtain ⟨_, _, ⟨T632, L632, k632, n632⟩, -, X632, ⟨Lc632, hQ632, l632, y632, z632⟩, st632⟩ := Jvm.LawKit.callS X527 hx (y := own_y10) hown527 (mvT hZ527 (own_g hw (i := 69) rfl)) (mvT hZ527 (own_g hw (i := 70) rfl)) (mvT hZ527 (own_g hw (i := 71) rfl)) (mvT hZ527 (own_g hw (i := 72) rfl)) (by decide) (backOf (W := 0) (own_rmst1 l Z a0 hw [] (b1) T527.heap n0 Z527 F547) hZ527 (own_g hw (i := 72) rfl) (own_g hw (i := 71) rfl) (by decide) (by decide)) (g := (mkF m 91 #[iv sx, iv fx, rv fi, rv un, iv sw, iv df, rv un, rv fi, rv pq, .val (.int 1), .unset, .unset] [(.int 1)])) rfl (by rw [hml]; rfl) (argsL := [(.int 1)]) (rest := []) (lenOf own_pd__I_Lcom_example_purgatory_purgatory_model_QueueItemStatus_ rfl) rfl (by show 2 * 0 + _ ≤ _; exact Nat.le_of_eq rfl) (hb hby at_91) (fun _ _ => ⟨rfl, rfl, (by decide : 6 + 0 ≤ _), (by decide : 90 + 0 ≤ _)⟩)
      dsimp only [Pt.U, Pt.locs, Pt.cells, Pt.slots] at X632 l632 y632 z632 st632 hQ632
      subst l632 y632 z632
      obtain ⟨rfl, N632q, e632⟩ := hQ632
      have N632 := Fr.app N527 N632q
      refine own_S (mkF m 94 #[iv sx, iv fx, rv fi, rv un, iv sw, iv df, rv un, rv fi, rv pq, .val (.int 1), .unset, .unset] [(.ref b1)]) (fun _ k => st632 _ k) ?_
      refine own_S (mkF m 96 #[iv sx, iv fx, rv fi, rv un, iv sw, iv df, rv un, rv fi, rv pq, .val (.int 1), rv b1, .unset] []) (fun _ k => XS.astore X632.here hx rfl (hb hby at_94) rfl rfl (l' := #[iv sx, iv fx, rv fi, rv un, iv sw, iv df, rv un, rv fi, rv pq, .val (.int 1), rv b1, .unset]) rfl k) ?_
      refine own_S (mkF m 98 #[iv sx, iv fx, rv fi, rv un, iv sw, iv df, rv un, rv fi, rv pq, .val (.int 1), rv b1, .unset] [(.ref pq)]) (fun _ k => XS.aload X632.here hx rfl (hb hby at_96) rfl rfl k) ?_
      refine own_S (mkF m 100 #[iv sx, iv fx, rv fi, rv un, iv sw, iv df, rv un, rv fi, rv pq, .val (.int 1), rv b1, .unset] [(.ref b1), (.ref pq)]) (fun _ k => XS.aload X632.here hx rfl (hb hby at_98) rfl rfl k) ?_
      obtain ⟨cq633, kq633, q633a, q633b, q633c⟩ := isOf hZ527 e632 F528
      obtain ⟨_, _, ⟨T633, L633, k633, n633⟩, -, X633, ⟨Lc633, hQ633, l633, y633, z633⟩, st633⟩ := X632.virtualBack hx (y := own_y14) (z := own_y14) hown527 (mvT hZ527 (own_g hw (i := 76) rfl)) (mvT hZ527 (own_g hw (i := 77) rfl)) (notFace_of_selects (args := #[]) (mvT hZ527 (own_g hw (i := 79) rfl))) (mvT hZ527 (own_g hw (i := 79) rfl)) (mvT hZ527 (own_g hw (i := 78) rfl)) (by decide) (backOf (W := 0) (own_rmr3 l Z a0 hw [] (pq) (b1) (b0) (em) T527.heap n0 Z527 F548 F549 F541 F544 NE_b1_b0) hZ527 (own_g hw (i := 80) rfl) (own_g hw (i := 1) rfl) (by decide) (by decide)) q633a q633c (g := (mkF m 100 #[iv sx, iv fx, rv fi, rv un, iv sw, iv df, rv un, rv fi, rv pq, .val (.int 1), rv b1, .unset] [(.ref b1), (.ref pq)])) rfl (by rw [hml]; rfl) (Steps.refl _) (argsL := [(.ref b1)]) (rest := []) (lenOf own_pd__Lcom_example_purgatory_purgatory_model_QueueItemStatus__Ljava_util_Optional_ rfl) rfl (by show 2 * 0 + _ ≤ _; exact Nat.le_of_eq rfl) (hb hby at_100) (fun _ _ => ⟨rfl, e632, (by decide : 6 + 0 ≤ _), (by decide : 90 + 0 ≤ _)⟩)
      dsimp only [Pt.U, Pt.locs, Pt.cells, Pt.slots] at X633 l633 y633 z633 st633 hQ633
      subst l633 y633 z633
      obtain ⟨rfl, N633q, e633⟩ := hQ633
      have N633 := Fr.app N632 N633q
      refine own_S (mkF m 103 #[iv sx, iv fx, rv fi, rv un, iv sw, iv df, rv un, rv fi, rv pq, .val (.int 1), rv b1, .unset] [(.ref em)]) (fun _ k => st633.trans k) ?_
      refine own_S (mkF m 105 #[iv sx, iv fx, rv fi, rv un, iv sw, iv df, rv un, rv fi, rv pq, .val (.int 1), rv b1, rv em] []) (fun _ k => XS.astore X633.here hx rfl (hb hby at_103) rfl rfl (l' := #[iv sx, iv fx, rv fi, rv un, iv sw, iv df, rv un, rv fi, rv pq, .val (.int 1), rv b1, rv em]) rfl k) ?_
      refine own_S (mkF m 107 #[iv sx, iv fx, rv fi, rv un, iv sw, iv df, rv un, rv fi, rv pq, .val (.int 1), rv b1, rv em] [(.int 1)]) (fun _ k => XS.iload X633.here hx rfl (hb hby at_105) rfl k) ?_
      have hc634 : ¬ ((1 : Int32) = (0 : Int32)) := by decide
      refine own_S (mkF m 134 #[iv sx, iv fx, rv fi, rv un, iv sw, iv df, rv un, rv fi, rv pq, .val (.int 1), rv b1, rv em] []) (fun _ k => XS.ifYes X633.here hx rfl (pc0 := 107) (pc' := 134) rfl (hb hby at_107) rfl ((if0 _ _).trans (feq hc634).2) (by decide) (by decide) k) ?_
      refine own_S (mkF m 136 #[iv sx, iv fx, rv fi, rv un, iv sw, iv df, rv un, rv fi, rv pq, .val (.int 1), rv b1, rv em] [(.int 1)]) (fun _ k => XS.iload X633.here hx rfl (hb hby at_134) rfl k) ?_
      refine own_S (mkF m 137 #[iv sx, iv fx, rv fi, rv un, iv sw, iv df, rv un, rv fi, rv pq, .val (.int 1), rv b1, rv em] [(.int 1), (.int 1)]) (fun _ k => XS.iconst X633.here hx rfl (hb hby at_136) k) ?_
      have hc635 : (1 : Int32) = (1 : Int32) := by decide
      refine own_S (mkF m 140 #[iv sx, iv fx, rv fi, rv un, iv sw, iv df, rv un, rv fi, rv pq, .val (.int 1), rv b1, rv em] []) (fun _ k => XS.icmpNo X633.here hx rfl (hb hby at_137) rfl (teq hc635).2 k) ?_
      refine own_S (mkF m 142 #[iv sx, iv fx, rv fi, rv un, iv sw, iv df, rv un, rv fi, rv pq, .val (.int 1), rv b1, rv em] [(.ref em)]) (fun _ k => XS.aload X633.here hx rfl (hb hby at_140) rfl rfl k) ?_
      obtain ⟨cq636, kq636, q636a, q636b, q636c⟩ := isOf hZ527 e633 F542
      obtain ⟨_, _, ⟨T636, L636, k636, n636⟩, -, X636, ⟨Lc636, hQ636, l636, y636, z636⟩, st636⟩ := X633.virtualBack hx (y := own_y15) (z := own_y15) hown527 (mvT hZ527 (own_g hw (i := 109) rfl)) (mvT hZ527 (own_g hw (i := 110) rfl)) (notFace_of_selects (args := #[]) (mvT hZ527 (own_g hw (i := 112) rfl))) (mvT hZ527 (own_g hw (i := 112) rfl)) (mvT hZ527 (own_g hw (i := 111) rfl)) (by decide) (backOf (W := 0) (own_rmip0 l Z a0 hw [] (em) T527.heap n0 Z527 F543) hZ527 (own_g hw (i := 113) rfl) (own_g hw (i := 83) rfl) (by decide) (by decide)) q636a q636c (g := (mkF m 142 #[iv sx, iv fx, rv fi, rv un, iv sw, iv df, rv un, rv fi, rv pq, .val (.int 1), rv b1, rv em] [(.ref em)])) rfl (by rw [hml]; rfl) (Steps.refl _) (argsL := []) (rest := []) (lenOf own_pd___Z rfl) rfl (by show 2 * 0 + _ ≤ _; exact Nat.le_of_eq rfl) (hb hby at_142) (fun _ _ => ⟨rfl, e633, (by decide : 6 + 0 ≤ _), (by decide : 90 + 0 ≤ _)⟩)
      dsimp only [Pt.U, Pt.locs, Pt.cells, Pt.slots] at X636 l636 y636 z636 st636 hQ636
      subst l636 y636 z636
      obtain ⟨rfl, N636q, e636⟩ := hQ636
      have N636 := Fr.app N633 N636q
      refine own_S (mkF m 145 #[iv sx, iv fx, rv fi, rv un, iv sw, iv df, rv un, rv fi, rv pq, .val (.int 1), rv b1, rv em] [(.int 0)]) (fun _ k => st636.trans k) ?_
      have hc637 : (0 : Int32) = (0 : Int32) := by decide
      refine own_S (mkF m 148 #[iv sx, iv fx, rv fi, rv un, iv sw, iv df, rv un, rv fi, rv pq, .val (.int 1), rv b1, rv em] []) (fun _ k => XS.ifNo X636.here hx rfl (hb hby at_145) rfl ((if0 _ _).trans (teq hc637).2) k) ?_
      refine own_S (mkF m 149 #[iv sx, iv fx, rv fi, rv un, iv sw, iv df, rv un, rv fi, rv pq, .val (.int 1), rv b1, rv em] [(.int 1)]) (fun _ k => XS.iconst X636.here hx rfl (hb hby at_148) k) ?_
      refine own_S (mkF m 153 #[iv sx, iv fx, rv fi, rv un, iv sw, iv df, rv un, rv fi, rv pq, .val (.int 1), rv b1, rv em] [(.int 1)]) (fun _ k => XS.goto X636.here hx rfl (pc0 := 149) (pc' := 153) rfl (hb hby at_149) (by decide) (by decide) k) ?_
      exact own_retWN (vm₁ := T527.vm) X636 hS527 (show _ ≤ T636.heap.size by rw [e636]; exact (Nat.le_refl _)) hx hlk (t := .boolean) hret (by simp) (hb hby at_153) (by rw [e636]; exact ⟨rfl, N636, trivial⟩) (by decide) (by decide)
    · -- kk = 2
      subst q567_2
      refine own_S (mkF m 91 #[iv sx, iv fx, rv fi, rv un, iv sw, iv df, rv un, rv fi, rv pq, .val (.int 2), .unset, .unset] [(.int 2)]) (fun _ k => XS.iload X527.here hx rfl (hb hby at_89) rfl k) ?_
      obtain ⟨_, _, ⟨T638, L638, k638, n638⟩, -, X638, ⟨Lc638, hQ638, l638, y638, z638⟩, st638⟩ := Jvm.LawKit.callS X527 hx (y := own_y10) hown527 (mvT hZ527 (own_g hw (i := 69) rfl)) (mvT hZ527 (own_g hw (i := 70) rfl)) (mvT hZ527 (own_g hw (i := 71) rfl)) (mvT hZ527 (own_g hw (i := 72) rfl)) (by decide) (backOf (W := 0) (own_rmst2 l Z a0 hw [] (b2) T527.heap n0 Z527 F550) hZ527 (own_g hw (i := 72) rfl) (own_g hw (i := 71) rfl) (by decide) (by decide)) (g := (mkF m 91 #[iv sx, iv fx, rv fi, rv un, iv sw, iv df, rv un, rv fi, rv pq, .val (.int 2), .unset, .unset] [(.int 2)])) rfl (by rw [hml]; rfl) (argsL := [(.int 2)]) (rest := []) (lenOf own_pd__I_Lcom_example_purgatory_purgatory_model_QueueItemStatus_ rfl) rfl (by show 2 * 0 + _ ≤ _; exact Nat.le_of_eq rfl) (hb hby at_91) (fun _ _ => ⟨rfl, rfl, (by decide : 6 + 0 ≤ _), (by decide : 90 + 0 ≤ _)⟩)
      dsimp only [Pt.U, Pt.locs, Pt.cells, Pt.slots] at X638 l638 y638 z638 st638 hQ638
      subst l638 y638 z638
      obtain ⟨rfl, N638q, e638⟩ := hQ638
      have N638 := Fr.app N527 N638q
      refine own_S (mkF m 94 #[iv sx, iv fx, rv fi, rv un, iv sw, iv df, rv un, rv fi, rv pq, .val (.int 2), .unset, .unset] [(.ref b2)]) (fun _ k => st638 _ k) ?_
      refine own_S (mkF m 96 #[iv sx, iv fx, rv fi, rv un, iv sw, iv df, rv un, rv fi, rv pq, .val (.int 2), rv b2, .unset] []) (fun _ k => XS.astore X638.here hx rfl (hb hby at_94) rfl rfl (l' := #[iv sx, iv fx, rv fi, rv un, iv sw, iv df, rv un, rv fi, rv pq, .val (.int 2), rv b2, .unset]) rfl k) ?_
      refine own_S (mkF m 98 #[iv sx, iv fx, rv fi, rv un, iv sw, iv df, rv un, rv fi, rv pq, .val (.int 2), rv b2, .unset] [(.ref pq)]) (fun _ k => XS.aload X638.here hx rfl (hb hby at_96) rfl rfl k) ?_
      refine own_S (mkF m 100 #[iv sx, iv fx, rv fi, rv un, iv sw, iv df, rv un, rv fi, rv pq, .val (.int 2), rv b2, .unset] [(.ref b2), (.ref pq)]) (fun _ k => XS.aload X638.here hx rfl (hb hby at_98) rfl rfl k) ?_
      obtain ⟨cq639, kq639, q639a, q639b, q639c⟩ := isOf hZ527 e638 F528
      obtain ⟨_, _, ⟨T639, L639, k639, n639⟩, -, X639, ⟨Lc639, hQ639, l639, y639, z639⟩, st639⟩ := X638.virtualBack hx (y := own_y14) (z := own_y14) hown527 (mvT hZ527 (own_g hw (i := 76) rfl)) (mvT hZ527 (own_g hw (i := 77) rfl)) (notFace_of_selects (args := #[]) (mvT hZ527 (own_g hw (i := 79) rfl))) (mvT hZ527 (own_g hw (i := 79) rfl)) (mvT hZ527 (own_g hw (i := 78) rfl)) (by decide) (backOf (W := 0) (own_rmr1 l Z a0 hw [] (pq) (b2) (un) (em) T527.heap n0 Z527 F551 F552 F529 F541) hZ527 (own_g hw (i := 80) rfl) (own_g hw (i := 1) rfl) (by decide) (by decide)) q639a q639c (g := (mkF m 100 #[iv sx, iv fx, rv fi, rv un, iv sw, iv df, rv un, rv fi, rv pq, .val (.int 2), rv b2, .unset] [(.ref b2), (.ref pq)])) rfl (by rw [hml]; rfl) (Steps.refl _) (argsL := [(.ref b2)]) (rest := []) (lenOf own_pd__Lcom_example_purgatory_purgatory_model_QueueItemStatus__Ljava_util_Optional_ rfl) rfl (by show 2 * 0 + _ ≤ _; exact Nat.le_of_eq rfl) (hb hby at_100) (fun _ _ => ⟨rfl, e638, (by decide : 6 + 1 ≤ _), (by decide : 90 + 1 ≤ _)⟩)
      dsimp only [Pt.U, Pt.locs, Pt.cells, Pt.slots] at X639 l639 y639 z639 st639 hQ639
      subst l639 y639 z639
      obtain ⟨op, rfl, N639q, K639q, F640, F641, pp642⟩ := hQ639
      have N639 := Fr.app N638 N639q
      refine own_S (mkF m 103 #[iv sx, iv fx, rv fi, rv un, iv sw, iv df, rv un, rv fi, rv pq, .val (.int 2), rv b2, .unset] [(.ref op)]) (fun _ k => st639.trans k) ?_
      have n643 : qd ≠ op := Nat.ne_of_lt (Nat.lt_of_lt_of_le F532.lt pp642)
      have n644 : fi ≠ op := Nat.ne_of_lt (Nat.lt_of_lt_of_le F535.lt pp642)
      have n645 : un ≠ op := Nat.ne_of_lt (Nat.lt_of_lt_of_le F536.lt pp642)
      have n646 : dl ≠ op := Nat.ne_of_lt (Nat.lt_of_lt_of_le F539.lt pp642)
      have n647 : em ≠ op := Nat.ne_of_lt (Nat.lt_of_lt_of_le F542.lt pp642)
      have n648 : b0 ≠ op := Nat.ne_of_lt (Nat.lt_of_lt_of_le F545.lt pp642)
      have n649 : b1 ≠ op := Nat.ne_of_lt (Nat.lt_of_lt_of_le F548.lt pp642)
      have n650 : b2 ≠ op := Nat.ne_of_lt (Nat.lt_of_lt_of_le F551.lt pp642)
      have n651 : b3 ≠ op := Nat.ne_of_lt (Nat.lt_of_lt_of_le F554.lt pp642)
      have n652 : b4 ≠ op := Nat.ne_of_lt (Nat.lt_of_lt_of_le F557.lt pp642)
      have n653 : b5 ≠ op := Nat.ne_of_lt (Nat.lt_of_lt_of_le F560.lt pp642)
      have n654 : b6 ≠ op := Nat.ne_of_lt (Nat.lt_of_lt_of_le F563.lt pp642)
      have n655 : pq ≠ op := Nat.ne_of_lt (Nat.lt_of_lt_of_le F528.lt pp642)
      have ge_op : n0 ≤ op := Nat.le_trans Z527 pp642
      have F656 := F531.ext ⟨K639q.1, fun a c q => K639q.2.1 a c q nin0⟩
      have F657 := F532.keep K639q
      have F658 := F533.keep K639q nin0
      have F659 := F534.keep K639q nin0
      have F660 := F535.keep K639q
      have F661 := F536.keep K639q
      have F662 := F537.keep K639q nin0
      have F663 := F538.keep K639q nin0
      have F664 := F539.keep K639q
      have F665 := F540.keep K639q nin0
      have F666 := F541.ext ⟨K639q.1, fun a c q => K639q.2.1 a c q nin0⟩
      have F667 := F542.keep K639q
      have F668 := F543.keep K639q nin0
      have F669 := F544.ext ⟨K639q.1, fun a c q => K639q.2.1 a c q nin0⟩
      have F670 := F545.keep K639q
      have F671 := F546.keep K639q nin0
      have F672 := F547.ext ⟨K639q.1, fun a c q => K639q.2.1 a c q nin0⟩
      have F673 := F548.keep K639q
      have F674 := F549.keep K639q nin0
      have F675 := F550.ext ⟨K639q.1, fun a c q => K639q.2.1 a c q nin0⟩
      have F676 := F551.keep K639q
      have F677 := F552.keep K639q nin0
      have F678 := F553.ext ⟨K639q.1, fun a c q => K639q.2.1 a c q nin0⟩
      have F679 := F554.keep K639q
      have F680 := F555.keep K639q nin0
      have F681 := F556.ext ⟨K639q.1, fun a c q => K639q.2.1 a c q nin0⟩
      have F682 := F557.keep K639q
      have F683 := F558.keep K639q nin0
      have F684 := F559.ext ⟨K639q.1, fun a c q => K639q.2.1 a c q nin0⟩
      have F685 := F560.keep K639q
      have F686 := F561.keep K639q nin0
      have F687 := F562.ext ⟨K639q.1, fun a c q => K639q.2.1 a c q nin0⟩
      have F688 := F563.keep K639q
      have F689 := F564.keep K639q nin0
      have F690 := F528.keep K639q
      have F691 := F529.keep K639q nin0
      have F692 := F530.keep K639q nin0
      have Z639 : n0 ≤ T639.heap.size := Nat.le_trans Z527 K639q.1
      have hk639 : T527.heap.size ≤ T639.heap.size := Nat.le_trans (Nat.le_refl T527.heap.size) K639q.1
      refine own_S (mkF m 105 #[iv sx, iv fx, rv fi, rv un, iv sw, iv df, rv un, rv fi, rv pq, .val (.int 2), rv b2, rv op] []) (fun _ k => XS.astore X639.here hx rfl (hb hby at_103) rfl rfl (l' := #[iv sx, iv fx, rv fi, rv un, iv sw, iv df, rv un, rv fi, rv pq, .val (.int 2), rv b2, rv op]) rfl k) ?_
      refine own_S (mkF m 107 #[iv sx, iv fx, rv fi, rv un, iv sw, iv df, rv un, rv fi, rv pq, .val (.int 2), rv b2, rv op] [(.int 2)]) (fun _ k => XS.iload X639.here hx rfl (hb hby at_105) rfl k) ?_
      have hc693 : ¬ ((2 : Int32) = (0 : Int32)) := by decide
      refine own_S (mkF m 134 #[iv sx, iv fx, rv fi, rv un, iv sw, iv df, rv un, rv fi, rv pq, .val (.int 2), rv b2, rv op] []) (fun _ k => XS.ifYes X639.here hx rfl (pc0 := 107) (pc' := 134) rfl (hb hby at_107) rfl ((if0 _ _).trans (feq hc693).2) (by decide) (by decide) k) ?_
      refine own_S (mkF m 136 #[iv sx, iv fx, rv fi, rv un, iv sw, iv df, rv un, rv fi, rv pq, .val (.int 2), rv b2, rv op] [(.int 2)]) (fun _ k => XS.iload X639.here hx rfl (hb hby at_134) rfl k) ?_
      refine own_S (mkF m 137 #[iv sx, iv fx, rv fi, rv un, iv sw, iv df, rv un, rv fi, rv pq, .val (.int 2), rv b2, rv op] [(.int 1), (.int 2)]) (fun _ k => XS.iconst X639.here hx rfl (hb hby at_136) k) ?_
      have hc694 : ¬ ((2 : Int32) = (1 : Int32)) := by decide
      refine own_S (mkF m 154 #[iv sx, iv fx, rv fi, rv un, iv sw, iv df, rv un, rv fi, rv pq, .val (.int 2), rv b2, rv op] []) (fun _ k => XS.icmpYes X639.here hx rfl (pc0 := 137) (pc' := 154) rfl (hb hby at_137) rfl (feq hc694).2 (by decide) (by decide) k) ?_
      refine own_S (mkF m 156 #[iv sx, iv fx, rv fi, rv un, iv sw, iv df, rv un, rv fi, rv pq, .val (.int 2), rv b2, rv op] [(.ref op)]) (fun _ k => XS.aload X639.here hx rfl (hb hby at_154) rfl rfl k) ?_
      obtain ⟨cq695, kq695, q695a, q695b, q695c⟩ := isOf hZ527 rfl F640
      obtain ⟨_, _, ⟨T695, L695, k695, n695⟩, -, X695, ⟨Lc695, hQ695, l695, y695, z695⟩, st695⟩ := X639.virtualBack hx (y := own_y15) (z := own_y15) hown527 (mvT hZ527 (own_g hw (i := 109) rfl)) (mvT hZ527 (own_g hw (i := 110) rfl)) (notFace_of_selects (args := #[]) (mvT hZ527 (own_g hw (i := 112) rfl))) (mvT hZ527 (own_g hw (i := 112) rfl)) (mvT hZ527 (own_g hw (i := 111) rfl)) (by decide) (backOf (W := 0) (own_rmip1 l Z a0 hw [] (op) (un) T639.heap n0 Z639 F641) hZ527 (own_g hw (i := 113) rfl) (own_g hw (i := 83) rfl) (by decide) (by decide)) q695a q695c (g := (mkF m 156 #[iv sx, iv fx, rv fi, rv un, iv sw, iv df, rv un, rv fi, rv pq, .val (.int 2), rv b2, rv op] [(.ref op)])) rfl (by rw [hml]; rfl) (Steps.refl _) (argsL := []) (rest := []) (lenOf own_pd___Z rfl) rfl (by show 2 * 0 + _ ≤ _; exact Nat.le_of_eq rfl) (hb hby at_156) (fun _ _ => ⟨rfl, rfl, (by decide : 7 + 0 ≤ _), (by decide : 91 + 0 ≤ _)⟩)
      dsimp only [Pt.U, Pt.locs, Pt.cells, Pt.slots] at X695 l695 y695 z695 st695 hQ695
      subst l695 y695 z695
      obtain ⟨rfl, N695q, e695⟩ := hQ695
      have N695 := Fr.app N639 N695q
      refine own_S (mkF m 159 #[iv sx, iv fx, rv fi, rv un, iv sw, iv df, rv un, rv fi, rv pq, .val (.int 2), rv b2, rv op] [(.int 1)]) (fun _ k => st695.trans k) ?_
      have hc696 : ¬ ((1 : Int32) = (0 : Int32)) := by decide
      refine own_S (mkF m 162 #[iv sx, iv fx, rv fi, rv un, iv sw, iv df, rv un, rv fi, rv pq, .val (.int 2), rv b2, rv op] []) (fun _ k => XS.ifNo X695.here hx rfl (hb hby at_159) rfl ((if0 _ _).trans (feq hc696).1) k) ?_
      refine own_S (mkF m 164 #[iv sx, iv fx, rv fi, rv un, iv sw, iv df, rv un, rv fi, rv pq, .val (.int 2), rv b2, rv op] [(.ref op)]) (fun _ k => XS.aload X695.here hx rfl (hb hby at_162) rfl rfl k) ?_
      obtain ⟨cq697, kq697, q697a, q697b, q697c⟩ := isOf hZ527 e695 F640
      obtain ⟨_, _, ⟨T697, L697, k697, n697⟩, -, X697, ⟨Lc697, hQ697, l697, y697, z697⟩, st697⟩ := X695.virtualBack hx (y := own_y16) (z := own_y16) hown527 (mvT hZ527 (own_g hw (i := 114) rfl)) (mvT hZ527 (own_g hw (i := 115) rfl)) (notFace_of_selects (args := #[]) (mvT hZ527 (own_g hw (i := 117) rfl))) (mvT hZ527 (own_g hw (i := 117) rfl)) (mvT hZ527 (own_g hw (i := 116) rfl)) (by decide) (backOf (W := 0) (own_rmog l Z a0 hw [] (op) (un) T639.heap n0 Z639 F641) hZ527 (own_g hw (i := 118) rfl) (own_g hw (i := 83) rfl) (by decide) (by decide)) q697a q697c (g := (mkF m 164 #[iv sx, iv fx, rv fi, rv un, iv sw, iv df, rv un, rv fi, rv pq, .val (.int 2), rv b2, rv op] [(.ref op)])) rfl (by rw [hml]; rfl) (Steps.refl _) (argsL := []) (rest := []) (lenOf own_pd___Ljava_lang_Object_ rfl) rfl (by show 2 * 0 + _ ≤ _; exact Nat.le_of_eq rfl) (hb hby at_164) (fun _ _ => ⟨rfl, e695, (by decide : 7 + 0 ≤ _), (by decide : 91 + 0 ≤ _)⟩)
      dsimp only [Pt.U, Pt.locs, Pt.cells, Pt.slots] at X697 l697 y697 z697 st697 hQ697
      subst l697 y697 z697
      obtain ⟨rfl, N697q, e697⟩ := hQ697
      have N697 := Fr.app N695 N697q
      refine own_S (mkF m 167 #[iv sx, iv fx, rv fi, rv un, iv sw, iv df, rv un, rv fi, rv pq, .val (.int 2), rv b2, rv op] [(.ref un)]) (fun _ k => st697.trans k) ?_
      refine own_S (mkF m 169 #[iv sx, iv fx, rv fi, rv un, iv sw, iv df, rv un, rv fi, rv pq, .val (.int 2), rv b2, rv op] [(.ref un), (.ref un)]) (fun _ k => XS.aload X697.here hx rfl (hb hby at_167) rfl rfl k) ?_
      have hc698 : un = un := rfl
      refine own_S (mkF m 172 #[iv sx, iv fx, rv fi, rv un, iv sw, iv df, rv un, rv fi, rv pq, .val (.int 2), rv b2, rv op] []) (fun _ k => acmp X697 hx rfl rfl rfl (pc0 := 169) (pc' := 172) (same := true) rfl (hb hby at_169) rfl (by simp [hc698]) (by decide) (by decide) k) ?_
      refine own_S (mkF m 173 #[iv sx, iv fx, rv fi, rv un, iv sw, iv df, rv un, rv fi, rv pq, .val (.int 2), rv b2, rv op] [(.int 1)]) (fun _ k => XS.iconst X697.here hx rfl (hb hby at_172) k) ?_
      refine own_S (mkF m 177 #[iv sx, iv fx, rv fi, rv un, iv sw, iv df, rv un, rv fi, rv pq, .val (.int 2), rv b2, rv op] [(.int 1)]) (fun _ k => XS.goto X697.here hx rfl (pc0 := 173) (pc' := 177) rfl (hb hby at_173) (by decide) (by decide) k) ?_
      exact own_retWN (vm₁ := T527.vm) X697 hS527 (show _ ≤ T697.heap.size by rw [e697]; exact hk639) hx hlk (t := .boolean) hret (by simp) (hb hby at_177) (by rw [e697]; exact ⟨rfl, N697, trivial⟩) (by decide) (by decide)
    · -- kk = 3
      subst q568_3
      refine own_S (mkF m 91 #[iv sx, iv fx, rv fi, rv un, iv sw, iv df, rv un, rv fi, rv pq, .val (.int 3), .unset, .unset] [(.int 3)]) (fun _ k => XS.iload X527.here hx rfl (hb hby at_89) rfl k) ?_
      obtain ⟨_, _, ⟨T699, L699, k699, n699⟩, -, X699, ⟨Lc699, hQ699, l699, y699, z699⟩, st699⟩ := Jvm.LawKit.callS X527 hx (y := own_y10) hown527 (mvT hZ527 (own_g hw (i := 69) rfl)) (mvT hZ527 (own_g hw (i := 70) rfl)) (mvT hZ527 (own_g hw (i := 71) rfl)) (mvT hZ527 (own_g hw (i := 72) rfl)) (by decide) (backOf (W := 0) (own_rmst3 l Z a0 hw [] (b3) T527.heap n0 Z527 F553) hZ527 (own_g hw (i := 72) rfl) (own_g hw (i := 71) rfl) (by decide) (by decide)) (g := (mkF m 91 #[iv sx, iv fx, rv fi, rv un, iv sw, iv df, rv un, rv fi, rv pq, .val (.int 3), .unset, .unset] [(.int 3)])) rfl (by rw [hml]; rfl) (argsL := [(.int 3)]) (rest := []) (lenOf own_pd__I_Lcom_example_purgatory_purgatory_model_QueueItemStatus_ rfl) rfl (by show 2 * 0 + _ ≤ _; exact Nat.le_of_eq rfl) (hb hby at_91) (fun _ _ => ⟨rfl, rfl, (by decide : 6 + 0 ≤ _), (by decide : 90 + 0 ≤ _)⟩)
      dsimp only [Pt.U, Pt.locs, Pt.cells, Pt.slots] at X699 l699 y699 z699 st699 hQ699
      subst l699 y699 z699
      obtain ⟨rfl, N699q, e699⟩ := hQ699
      have N699 := Fr.app N527 N699q
      refine own_S (mkF m 94 #[iv sx, iv fx, rv fi, rv un, iv sw, iv df, rv un, rv fi, rv pq, .val (.int 3), .unset, .unset] [(.ref b3)]) (fun _ k => st699 _ k) ?_
      refine own_S (mkF m 96 #[iv sx, iv fx, rv fi, rv un, iv sw, iv df, rv un, rv fi, rv pq, .val (.int 3), rv b3, .unset] []) (fun _ k => XS.astore X699.here hx rfl (hb hby at_94) rfl rfl (l' := #[iv sx, iv fx, rv fi, rv un, iv sw, iv df, rv un, rv fi, rv pq, .val (.int 3), rv b3, .unset]) rfl k) ?_
      refine own_S (mkF m 98 #[iv sx, iv fx, rv fi, rv un, iv sw, iv df, rv un, rv fi, rv pq, .val (.int 3), rv b3, .unset] [(.ref pq)]) (fun _ k => XS.aload X699.here hx rfl (hb hby at_96) rfl rfl k) ?_
      refine own_S (mkF m 100 #[iv sx, iv fx, rv fi, rv un, iv sw, iv df, rv un, rv fi, rv pq, .val (.int 3), rv b3, .unset] [(.ref b3), (.ref pq)]) (fun _ k => XS.aload X699.here hx rfl (hb hby at_98) rfl rfl k) ?_
      obtain ⟨cq700, kq700, q700a, q700b, q700c⟩ := isOf hZ527 e699 F528
      obtain ⟨_, _, ⟨T700, L700, k700, n700⟩, -, X700, ⟨Lc700, hQ700, l700, y700, z700⟩, st700⟩ := X699.virtualBack hx (y := own_y14) (z := own_y14) hown527 (mvT hZ527 (own_g hw (i := 76) rfl)) (mvT hZ527 (own_g hw (i := 77) rfl)) (notFace_of_selects (args := #[]) (mvT hZ527 (own_g hw (i := 79) rfl))) (mvT hZ527 (own_g hw (i := 79) rfl)) (mvT hZ527 (own_g hw (i := 78) rfl)) (by decide) (backOf (W := 0) (own_rmr1 l Z a0 hw [] (pq) (b3) (un) (em) T527.heap n0 Z527 F554 F555 F529 F541) hZ527 (own_g hw (i := 80) rfl) (own_g hw (i := 1) rfl) (by decide) (by decide)) q700a q700c (g := (mkF m 100 #[iv sx, iv fx, rv fi, rv un, iv sw, iv df, rv un, rv fi, rv pq, .val (.int 3), rv b3, .unset] [(.ref b3), (.ref pq)])) rfl (by rw [hml]; rfl) (Steps.refl _) (argsL := [(.ref b3)]) (rest := []) (lenOf own_pd__Lcom_example_purgatory_purgatory_model_QueueItemStatus__Ljava_util_Optional_ rfl) rfl (by show 2 * 0 + _ ≤ _; exact Nat.le_of_eq rfl) (hb hby at_100) (fun _ _ => ⟨rfl, e699, (by decide : 6 + 1 ≤ _), (by decide : 90 + 1 ≤ _)⟩)
      dsimp only [Pt.U, Pt.locs, Pt.cells, Pt.slots] at X700 l700 y700 z700 st700 hQ700
      subst l700 y700 z700
      obtain ⟨op, rfl, N700q, K700q, F701, F702, pp703⟩ := hQ700
      have N700 := Fr.app N699 N700q
      refine own_S (mkF m 103 #[iv sx, iv fx, rv fi, rv un, iv sw, iv df, rv un, rv fi, rv pq, .val (.int 3), rv b3, .unset] [(.ref op)]) (fun _ k => st700.trans k) ?_
      have n704 : qd ≠ op := Nat.ne_of_lt (Nat.lt_of_lt_of_le F532.lt pp703)
      have n705 : fi ≠ op := Nat.ne_of_lt (Nat.lt_of_lt_of_le F535.lt pp703)
      have n706 : un ≠ op := Nat.ne_of_lt (Nat.lt_of_lt_of_le F536.lt pp703)
      have n707 : dl ≠ op := Nat.ne_of_lt (Nat.lt_of_lt_of_le F539.lt pp703)
      have n708 : em ≠ op := Nat.ne_of_lt (Nat.lt_of_lt_of_le F542.lt pp703)
      have n709 : b0 ≠ op := Nat.ne_of_lt (Nat.lt_of_lt_of_le F545.lt pp703)
      have n710 : b1 ≠ op := Nat.ne_of_lt (Nat.lt_of_lt_of_le F548.lt pp703)
      have n711 : b2 ≠ op := Nat.ne_of_lt (Nat.lt_of_lt_of_le F551.lt pp703)
      have n712 : b3 ≠ op := Nat.ne_of_lt (Nat.lt_of_lt_of_le F554.lt pp703)
      have n713 : b4 ≠ op := Nat.ne_of_lt (Nat.lt_of_lt_of_le F557.lt pp703)
      have n714 : b5 ≠ op := Nat.ne_of_lt (Nat.lt_of_lt_of_le F560.lt pp703)
      have n715 : b6 ≠ op := Nat.ne_of_lt (Nat.lt_of_lt_of_le F563.lt pp703)
      have n716 : pq ≠ op := Nat.ne_of_lt (Nat.lt_of_lt_of_le F528.lt pp703)
      have ge_op : n0 ≤ op := Nat.le_trans Z527 pp703
      have F717 := F531.ext ⟨K700q.1, fun a c q => K700q.2.1 a c q nin0⟩
      have F718 := F532.keep K700q
      have F719 := F533.keep K700q nin0
      have F720 := F534.keep K700q nin0
      have F721 := F535.keep K700q
      have F722 := F536.keep K700q
      have F723 := F537.keep K700q nin0
      have F724 := F538.keep K700q nin0
      have F725 := F539.keep K700q
      have F726 := F540.keep K700q nin0
      have F727 := F541.ext ⟨K700q.1, fun a c q => K700q.2.1 a c q nin0⟩
      have F728 := F542.keep K700q
      have F729 := F543.keep K700q nin0
      have F730 := F544.ext ⟨K700q.1, fun a c q => K700q.2.1 a c q nin0⟩
      have F731 := F545.keep K700q
      have F732 := F546.keep K700q nin0
      have F733 := F547.ext ⟨K700q.1, fun a c q => K700q.2.1 a c q nin0⟩
      have F734 := F548.keep K700q
      have F735 := F549.keep K700q nin0
      have F736 := F550.ext ⟨K700q.1, fun a c q => K700q.2.1 a c q nin0⟩
      have F737 := F551.keep K700q
      have F738 := F552.keep K700q nin0
      have F739 := F553.ext ⟨K700q.1, fun a c q => K700q.2.1 a c q nin0⟩
      have F740 := F554.keep K700q
      have F741 := F555.keep K700q nin0
      have F742 := F556.ext ⟨K700q.1, fun a c q => K700q.2.1 a c q nin0⟩
      have F743 := F557.keep K700q
      have F744 := F558.keep K700q nin0
      have F745 := F559.ext ⟨K700q.1, fun a c q => K700q.2.1 a c q nin0⟩
      have F746 := F560.keep K700q
      have F747 := F561.keep K700q nin0
      have F748 := F562.ext ⟨K700q.1, fun a c q => K700q.2.1 a c q nin0⟩
      have F749 := F563.keep K700q
      have F750 := F564.keep K700q nin0
      have F751 := F528.keep K700q
      have F752 := F529.keep K700q nin0
      have F753 := F530.keep K700q nin0
      have Z700 : n0 ≤ T700.heap.size := Nat.le_trans Z527 K700q.1
      have hk700 : T527.heap.size ≤ T700.heap.size := Nat.le_trans (Nat.le_refl T527.heap.size) K700q.1
      refine own_S (mkF m 105 #[iv sx, iv fx, rv fi, rv un, iv sw, iv df, rv un, rv fi, rv pq, .val (.int 3), rv b3, rv op] []) (fun _ k => XS.astore X700.here hx rfl (hb hby at_103) rfl rfl (l' := #[iv sx, iv fx, rv fi, rv un, iv sw, iv df, rv un, rv fi, rv pq, .val (.int 3), rv b3, rv op]) rfl k) ?_
      refine own_S (mkF m 107 #[iv sx, iv fx, rv fi, rv un, iv sw, iv df, rv un, rv fi, rv pq, .val (.int 3), rv b3, rv op] [(.int 3)]) (fun _ k => XS.iload X700.here hx rfl (hb hby at_105) rfl k) ?_
      have hc754 : ¬ ((3 : Int32) = (0 : Int32)) := by decide
      refine own_S (mkF m 134 #[iv sx, iv fx, rv fi, rv un, iv sw, iv df, rv un, rv fi, rv pq, .val (.int 3), rv b3, rv op] []) (fun _ k => XS.ifYes X700.here hx rfl (pc0 := 107) (pc' := 134) rfl (hb hby at_107) rfl ((if0 _ _).trans (feq hc754).2) (by decide) (by decide) k) ?_
      refine own_S (mkF m 136 #[iv sx, iv fx, rv fi, rv un, iv sw, iv df, rv un, rv fi, rv pq, .val (.int 3), rv b3, rv op] [(.int 3)]) (fun _ k => XS.iload X700.here hx rfl (hb hby at_134) rfl k) ?_
      refine own_S (mkF m 137 #[iv sx, iv fx, rv fi, rv un, iv sw, iv df, rv un, rv fi, rv pq, .val (.int 3), rv b3, rv op] [(.int 1), (.int 3)]) (fun _ k => XS.iconst X700.here hx rfl (hb hby at_136) k) ?_
      have hc755 : ¬ ((3 : Int32) = (1 : Int32)) := by decide
      refine own_S (mkF m 154 #[iv sx, iv fx, rv fi, rv un, iv sw, iv df, rv un, rv fi, rv pq, .val (.int 3), rv b3, rv op] []) (fun _ k => XS.icmpYes X700.here hx rfl (pc0 := 137) (pc' := 154) rfl (hb hby at_137) rfl (feq hc755).2 (by decide) (by decide) k) ?_
      refine own_S (mkF m 156 #[iv sx, iv fx, rv fi, rv un, iv sw, iv df, rv un, rv fi, rv pq, .val (.int 3), rv b3, rv op] [(.ref op)]) (fun _ k => XS.aload X700.here hx rfl (hb hby at_154) rfl rfl k) ?_
      obtain ⟨cq756, kq756, q756a, q756b, q756c⟩ := isOf hZ527 rfl F701
      obtain ⟨_, _, ⟨T756, L756, k756, n756⟩, -, X756, ⟨Lc756, hQ756, l756, y756, z756⟩, st756⟩ := X700.virtualBack hx (y := own_y15) (z := own_y15) hown527 (mvT hZ527 (own_g hw (i := 109) rfl)) (mvT hZ527 (own_g hw (i := 110) rfl)) (notFace_of_selects (args := #[]) (mvT hZ527 (own_g hw (i := 112) rfl))) (mvT hZ527 (own_g hw (i := 112) rfl)) (mvT hZ527 (own_g hw (i := 111) rfl)) (by decide) (backOf (W := 0) (own_rmip1 l Z a0 hw [] (op) (un) T700.heap n0 Z700 F702) hZ527 (own_g hw (i := 113) rfl) (own_g hw (i := 83) rfl) (by decide) (by decide)) q756a q756c (g := (mkF m 156 #[iv sx, iv fx, rv fi, rv un, iv sw, iv df, rv un, rv fi, rv pq, .val (.int 3), rv b3, rv op] [(.ref op)])) rfl (by rw [hml]; rfl) (Steps.refl _) (argsL := []) (rest := []) (lenOf own_pd___Z rfl) rfl (by show 2 * 0 + _ ≤ _; exact Nat.le_of_eq rfl) (hb hby at_156) (fun _ _ => ⟨rfl, rfl, (by decide : 7 + 0 ≤ _), (by decide : 91 + 0 ≤ _)⟩)
      dsimp only [Pt.U, Pt.locs, Pt.cells, Pt.slots] at X756 l756 y756 z756 st756 hQ756
      subst l756 y756 z756
      obtain ⟨rfl, N756q, e756⟩ := hQ756
      have N756 := Fr.app N700 N756q
      refine own_S (mkF m 159 #[iv sx, iv fx, rv fi, rv un, iv sw, iv df, rv un, rv fi, rv pq, .val (.int 3), rv b3, rv op] [(.int 1)]) (fun _ k => st756.trans k) ?_
      have hc757 : ¬ ((1 : Int32) = (0 : Int32)) := by decide
      refine own_S (mkF m 162 #[iv sx, iv fx, rv fi, rv un, iv sw, iv df, rv un, rv fi, rv pq, .val (.int 3), rv b3, rv op] []) (fun _ k => XS.ifNo X756.here hx rfl (hb hby at_159) rfl ((if0 _ _).trans (feq hc757).1) k) ?_
      refine own_S (mkF m 164 #[iv sx, iv fx, rv fi, rv un, iv sw, iv df, rv un, rv fi, rv pq, .val (.int 3), rv b3, rv op] [(.ref op)]) (fun _ k => XS.aload X756.here hx rfl (hb hby at_162) rfl rfl k) ?_
      obtain ⟨cq758, kq758, q758a, q758b, q758c⟩ := isOf hZ527 e756 F701
      obtain ⟨_, _, ⟨T758, L758, k758, n758⟩, -, X758, ⟨Lc758, hQ758, l758, y758, z758⟩, st758⟩ := X756.virtualBack hx (y := own_y16) (z := own_y16) hown527 (mvT hZ527 (own_g hw (i := 114) rfl)) (mvT hZ527 (own_g hw (i := 115) rfl)) (notFace_of_selects (args := #[]) (mvT hZ527 (own_g hw (i := 117) rfl))) (mvT hZ527 (own_g hw (i := 117) rfl)) (mvT hZ527 (own_g hw (i := 116) rfl)) (by decide) (backOf (W := 0) (own_rmog l Z a0 hw [] (op) (un) T700.heap n0 Z700 F702) hZ527 (own_g hw (i := 118) rfl) (own_g hw (i := 83) rfl) (by decide) (by decide)) q758a q758c (g := (mkF m 164 #[iv sx, iv fx, rv fi, rv un, iv sw, iv df, rv un, rv fi, rv pq, .val (.int 3), rv b3, rv op] [(.ref op)])) rfl (by rw [hml]; rfl) (Steps.refl _) (argsL := []) (rest := []) (lenOf own_pd___Ljava_lang_Object_ rfl) rfl (by show 2 * 0 + _ ≤ _; exact Nat.le_of_eq rfl) (hb hby at_164) (fun _ _ => ⟨rfl, e756, (by decide : 7 + 0 ≤ _), (by decide : 91 + 0 ≤ _)⟩)
      dsimp only [Pt.U, Pt.locs, Pt.cells, Pt.slots] at X758 l758 y758 z758 st758 hQ758
      subst l758 y758 z758
      obtain ⟨rfl, N758q, e758⟩ := hQ758
      have N758 := Fr.app N756 N758q
      refine own_S (mkF m 167 #[iv sx, iv fx, rv fi, rv un, iv sw, iv df, rv un, rv fi, rv pq, .val (.int 3), rv b3, rv op] [(.ref un)]) (fun _ k => st758.trans k) ?_
      refine own_S (mkF m 169 #[iv sx, iv fx, rv fi, rv un, iv sw, iv df, rv un, rv fi, rv pq, .val (.int 3), rv b3, rv op] [(.ref un), (.ref un)]) (fun _ k => XS.aload X758.here hx rfl (hb hby at_167) rfl rfl k) ?_
      have hc759 : un = un := rfl
      refine own_S (mkF m 172 #[iv sx, iv fx, rv fi, rv un, iv sw, iv df, rv un, rv fi, rv pq, .val (.int 3), rv b3, rv op] []) (fun _ k => acmp X758 hx rfl rfl rfl (pc0 := 169) (pc' := 172) (same := true) rfl (hb hby at_169) rfl (by simp [hc759]) (by decide) (by decide) k) ?_
      refine own_S (mkF m 173 #[iv sx, iv fx, rv fi, rv un, iv sw, iv df, rv un, rv fi, rv pq, .val (.int 3), rv b3, rv op] [(.int 1)]) (fun _ k => XS.iconst X758.here hx rfl (hb hby at_172) k) ?_
      refine own_S (mkF m 177 #[iv sx, iv fx, rv fi, rv un, iv sw, iv df, rv un, rv fi, rv pq, .val (.int 3), rv b3, rv op] [(.int 1)]) (fun _ k => XS.goto X758.here hx rfl (pc0 := 173) (pc' := 177) rfl (hb hby at_173) (by decide) (by decide) k) ?_
      exact own_retWN (vm₁ := T527.vm) X758 hS527 (show _ ≤ T758.heap.size by rw [e758]; exact hk700) hx hlk (t := .boolean) hret (by simp) (hb hby at_177) (by rw [e758]; exact ⟨rfl, N758, trivial⟩) (by decide) (by decide)
    · -- kk = 4
      subst q569_4
      refine own_S (mkF m 91 #[iv sx, iv fx, rv fi, rv un, iv sw, iv df, rv un, rv fi, rv pq, .val (.int 4), .unset, .unset] [(.int 4)]) (fun _ k => XS.iload X527.here hx rfl (hb hby at_89) rfl k) ?_
      obtain ⟨_, _, ⟨T760, L760, k760, n760⟩, -, X760, ⟨Lc760, hQ760, l760, y760, z760⟩, st760⟩ := Jvm.LawKit.callS X527 hx (y := own_y10) hown527 (mvT hZ527 (own_g hw (i := 69) rfl)) (mvT hZ527 (own_g hw (i := 70) rfl)) (mvT hZ527 (own_g hw (i := 71) rfl)) (mvT hZ527 (own_g hw (i := 72) rfl)) (by decide) (backOf (W := 0) (own_rmst4 l Z a0 hw [] (b4) T527.heap n0 Z527 F556) hZ527 (own_g hw (i := 72) rfl) (own_g hw (i := 71) rfl) (by decide) (by decide)) (g := (mkF m 91 #[iv sx, iv fx, rv fi, rv un, iv sw, iv df, rv un, rv fi, rv pq, .val (.int 4), .unset, .unset] [(.int 4)])) rfl (by rw [hml]; rfl) (argsL := [(.int 4)]) (rest := []) (lenOf own_pd__I_Lcom_example_purgatory_purgatory_model_QueueItemStatus_ rfl) rfl (by show 2 * 0 + _ ≤ _; exact Nat.le_of_eq rfl) (hb hby at_91) (fun _ _ => ⟨rfl, rfl, (by decide : 6 + 0 ≤ _), (by decide : 90 + 0 ≤ _)⟩)
      dsimp only [Pt.U, Pt.locs, Pt.cells, Pt.slots] at X760 l760 y760 z760 st760 hQ760
      subst l760 y760 z760
      obtain ⟨rfl, N760q, e760⟩ := hQ760
      have N760 := Fr.app N527 N760q
      refine own_S (mkF m 94 #[iv sx, iv fx, rv fi, rv un, iv sw, iv df, rv un, rv fi, rv pq, .val (.int 4), .unset, .unset] [(.ref b4)]) (fun _ k => st760 _ k) ?_
      refine own_S (mkF m 96 #[iv sx, iv fx, rv fi, rv un, iv sw, iv df, rv un, rv fi, rv pq, .val (.int 4), rv b4, .unset] []) (fun _ k => XS.astore X760.here hx rfl (hb hby at_94) rfl rfl (l' := #[iv sx, iv fx, rv fi, rv un, iv sw, iv df, rv un, rv fi, rv pq, .val (.int 4), rv b4, .unset]) rfl k) ?_
      refine own_S (mkF m 98 #[iv sx, iv fx, rv fi, rv un, iv sw, iv df, rv un, rv fi, rv pq, .val (.int 4), rv b4, .unset] [(.ref pq)]) (fun _ k => XS.aload X760.here hx rfl (hb hby at_96) rfl rfl k) ?_
      refine own_S (mkF m 100 #[iv sx, iv fx, rv fi, rv un, iv sw, iv df, rv un, rv fi, rv pq, .val (.int 4), rv b4, .unset] [(.ref b4), (.ref pq)]) (fun _ k => XS.aload X760.here hx rfl (hb hby at_98) rfl rfl k) ?_
      obtain ⟨cq761, kq761, q761a, q761b, q761c⟩ := isOf hZ527 e760 F528
      obtain ⟨_, _, ⟨T761, L761, k761, n761⟩, -, X761, ⟨Lc761, hQ761, l761, y761, z761⟩, st761⟩ := X760.virtualBack hx (y := own_y14) (z := own_y14) hown527 (mvT hZ527 (own_g hw (i := 76) rfl)) (mvT hZ527 (own_g hw (i := 77) rfl)) (notFace_of_selects (args := #[]) (mvT hZ527 (own_g hw (i := 79) rfl))) (mvT hZ527 (own_g hw (i := 79) rfl)) (mvT hZ527 (own_g hw (i := 78) rfl)) (by decide) (backOf (W := 0) (own_rmr1 l Z a0 hw [] (pq) (b4) (un) (em) T527.heap n0 Z527 F557 F558 F529 F541) hZ527 (own_g hw (i := 80) rfl) (own_g hw (i := 1) rfl) (by decide) (by decide)) q761a q761c (g := (mkF m 100 #[iv sx, iv fx, rv fi, rv un, iv sw, iv df, rv un, rv fi, rv pq, .val (.int 4), rv b4, .unset] [(.ref b4), (.ref pq)])) rfl (by rw [hml]; rfl) (Steps.refl _) (argsL := [(.ref b4)]) (rest := []) (lenOf own_pd__Lcom_example_purgatory_purgatory_model_QueueItemStatus__Ljava_util_Optional_ rfl) rfl (by show 2 * 0 + _ ≤ _; exact Nat.le_of_eq rfl) (hb hby at_100) (fun _ _ => ⟨rfl, e760, (by decide : 6 + 1 ≤ _), (by decide : 90 + 1 ≤ _)⟩)
      dsimp only [Pt.U, Pt.locs, Pt.cells, Pt.slots] at X761 l761 y761 z761 st761 hQ761
      subst l761 y761 z761
      obtain ⟨op, rfl, N761q, K761q, F762, F763, pp764⟩ := hQ761
      have N761 := Fr.app N760 N761q
      refine own_S (mkF m 103 #[iv sx, iv fx, rv fi, rv un, iv sw, iv df, rv un, rv fi, rv pq, .val (.int 4), rv b4, .unset] [(.ref op)]) (fun _ k => st761.trans k) ?_
      have n765 : qd ≠ op := Nat.ne_of_lt (Nat.lt_of_lt_of_le F532.lt pp764)
      have n766 : fi ≠ op := Nat.ne_of_lt (Nat.lt_of_lt_of_le F535.lt pp764)
      have n767 : un ≠ op := Nat.ne_of_lt (Nat.lt_of_lt_of_le F536.lt pp764)
      have n768 : dl ≠ op := Nat.ne_of_lt (Nat.lt_of_lt_of_le F539.lt pp764)
      have n769 : em ≠ op := Nat.ne_of_lt (Nat.lt_of_lt_of_le F542.lt pp764)
      have n770 : b0 ≠ op := Nat.ne_of_lt (Nat.lt_of_lt_of_le F545.lt pp764)
      have n771 : b1 ≠ op := Nat.ne_of_lt (Nat.lt_of_lt_of_le F548.lt pp764)
      have n772 : b2 ≠ op := Nat.ne_of_lt (Nat.lt_of_lt_of_le F551.lt pp764)
      have n773 : b3 ≠ op := Nat.ne_of_lt (Nat.lt_of_lt_of_le F554.lt pp764)
      have n774 : b4 ≠ op := Nat.ne_of_lt (Nat.lt_of_lt_of_le F557.lt pp764)
      have n775 : b5 ≠ op := Nat.ne_of_lt (Nat.lt_of_lt_of_le F560.lt pp764)
      have n776 : b6 ≠ op := Nat.ne_of_lt (Nat.lt_of_lt_of_le F563.lt pp764)
      have n777 : pq ≠ op := Nat.ne_of_lt (Nat.lt_of_lt_of_le F528.lt pp764)
      have ge_op : n0 ≤ op := Nat.le_trans Z527 pp764
      have F778 := F531.ext ⟨K761q.1, fun a c q => K761q.2.1 a c q nin0⟩
      have F779 := F532.keep K761q
      have F780 := F533.keep K761q nin0
      have F781 := F534.keep K761q nin0
      have F782 := F535.keep K761q
      have F783 := F536.keep K761q
      have F784 := F537.keep K761q nin0
      have F785 := F538.keep K761q nin0
      have F786 := F539.keep K761q
      have F787 := F540.keep K761q nin0
      have F788 := F541.ext ⟨K761q.1, fun a c q => K761q.2.1 a c q nin0⟩
      have F789 := F542.keep K761q
      have F790 := F543.keep K761q nin0
      have F791 := F544.ext ⟨K761q.1, fun a c q => K761q.2.1 a c q nin0⟩
      have F792 := F545.keep K761q
      have F793 := F546.keep K761q nin0
      have F794 := F547.ext ⟨K761q.1, fun a c q => K761q.2.1 a c q nin0⟩
      have F795 := F548.keep K761q
      have F796 := F549.keep K761q nin0
      have F797 := F550.ext ⟨K761q.1, fun a c q => K761q.2.1 a c q nin0⟩
      have F798 := F551.keep K761q
      have F799 := F552.keep K761q nin0
      have F800 := F553.ext ⟨K761q.1, fun a c q => K761q.2.1 a c q nin0⟩
      have F801 := F554.keep K761q
      have F802 := F555.keep K761q nin0
      have F803 := F556.ext ⟨K761q.1, fun a c q => K761q.2.1 a c q nin0⟩
      have F804 := F557.keep K761q
      have F805 := F558.keep K761q nin0
      have F806 := F559.ext ⟨K761q.1, fun a c q => K761q.2.1 a c q nin0⟩
      have F807 := F560.keep K761q
      have F808 := F561.keep K761q nin0
      have F809 := F562.ext ⟨K761q.1, fun a c q => K761q.2.1 a c q nin0⟩
      have F810 := F563.keep K761q
      have F811 := F564.keep K761q nin0
      have F812 := F528.keep K761q
      have F813 := F529.keep K761q nin0
      have F814 := F530.keep K761q nin0
      have Z761 : n0 ≤ T761.heap.size := Nat.le_trans Z527 K761q.1
      have hk761 : T527.heap.size ≤ T761.heap.size := Nat.le_trans (Nat.le_refl T527.heap.size) K761q.1
      refine own_S (mkF m 105 #[iv sx, iv fx, rv fi, rv un, iv sw, iv df, rv un, rv fi, rv pq, .val (.int 4), rv b4, rv op] []) (fun _ k => XS.astore X761.here hx rfl (hb hby at_103) rfl rfl (l' := #[iv sx, iv fx, rv fi, rv un, iv sw, iv df, rv un, rv fi, rv pq, .val (.int 4), rv b4, rv op]) rfl k) ?_
      refine own_S (mkF m 107 #[iv sx, iv fx, rv fi, rv un, iv sw, iv df, rv un, rv fi, rv pq, .val (.int 4), rv b4, rv op] [(.int 4)]) (fun _ k => XS.iload X761.here hx rfl (hb hby at_105) rfl k) ?_
      have hc815 : ¬ ((4 : Int32) = (0 : Int32)) := by decide
      refine own_S (mkF m 134 #[iv sx, iv fx, rv fi, rv un, iv sw, iv df, rv un, rv fi, rv pq, .val (.int 4), rv b4, rv op] []) (fun _ k => XS.ifYes X761.here hx rfl (pc0 := 107) (pc' := 134) rfl (hb hby at_107) rfl ((if0 _ _).trans (feq hc815).2) (by decide) (by decide) k) ?_
      refine own_S (mkF m 136 #[iv sx, iv fx, rv fi, rv un, iv sw, iv df, rv un, rv fi, rv pq, .val (.int 4), rv b4, rv op] [(.int 4)]) (fun _ k => XS.iload X761.here hx rfl (hb hby at_134) rfl k) ?_
      refine own_S (mkF m 137 #[iv sx, iv fx, rv fi, rv un, iv sw, iv df, rv un, rv fi, rv pq, .val (.int 4), rv b4, rv op] [(.int 1), (.int 4)]) (fun _ k => XS.iconst X761.here hx rfl (hb hby at_136) k) ?_
      have hc816 : ¬ ((4 : Int32) = (1 : Int32)) := by decide
      refine own_S (mkF m 154 #[iv sx, iv fx, rv fi, rv un, iv sw, iv df, rv un, rv fi, rv pq, .val (.int 4), rv b4, rv op] []) (fun _ k => XS.icmpYes X761.here hx rfl (pc0 := 137) (pc' := 154) rfl (hb hby at_137) rfl (feq hc816).2 (by decide) (by decide) k) ?_
      refine own_S (mkF m 156 #[iv sx, iv fx, rv fi, rv un, iv sw, iv df, rv un, rv fi, rv pq, .val (.int 4), rv b4, rv op] [(.ref op)]) (fun _ k => XS.aload X761.here hx rfl (hb hby at_154) rfl rfl k) ?_
      obtain ⟨cq817, kq817, q817a, q817b, q817c⟩ := isOf hZ527 rfl F762
      obtain ⟨_, _, ⟨T817, L817, k817, n817⟩, -, X817, ⟨Lc817, hQ817, l817, y817, z817⟩, st817⟩ := X761.virtualBack hx (y := own_y15) (z := own_y15) hown527 (mvT hZ527 (own_g hw (i := 109) rfl)) (mvT hZ527 (own_g hw (i := 110) rfl)) (notFace_of_selects (args := #[]) (mvT hZ527 (own_g hw (i := 112) rfl))) (mvT hZ527 (own_g hw (i := 112) rfl)) (mvT hZ527 (own_g hw (i := 111) rfl)) (by decide) (backOf (W := 0) (own_rmip1 l Z a0 hw [] (op) (un) T761.heap n0 Z761 F763) hZ527 (own_g hw (i := 113) rfl) (own_g hw (i := 83) rfl) (by decide) (by decide)) q817a q817c (g := (mkF m 156 #[iv sx, iv fx, rv fi, rv un, iv sw, iv df, rv un, rv fi, rv pq, .val (.int 4), rv b4, rv op] [(.ref op)])) rfl (by rw [hml]; rfl) (Steps.refl _) (argsL := []) (rest := []) (lenOf own_pd___Z rfl) rfl (by show 2 * 0 + _ ≤ _; exact Nat.le_of_eq rfl) (hb hby at_156) (fun _ _ => ⟨rfl, rfl, (by decide : 7 + 0 ≤ _), (by decide : 91 + 0 ≤ _)⟩)
      dsimp only [Pt.U, Pt.locs, Pt.cells, Pt.slots] at X817 l817 y817 z817 st817 hQ817
      subst l817 y817 z817
      obtain ⟨rfl, N817q, e817⟩ := hQ817
      have N817 := Fr.app N761 N817q
      refine own_S (mkF m 159 #[iv sx, iv fx, rv fi, rv un, iv sw, iv df, rv un, rv fi, rv pq, .val (.int 4), rv b4, rv op] [(.int 1)]) (fun _ k => st817.trans k) ?_
      have hc818 : ¬ ((1 : Int32) = (0 : Int32)) := by decide
      refine own_S (mkF m 162 #[iv sx, iv fx, rv fi, rv un, iv sw, iv df, rv un, rv fi, rv pq, .val (.int 4), rv b4, rv op] []) (fun _ k => XS.ifNo X817.here hx rfl (hb hby at_159) rfl ((if0 _ _).trans (feq hc818).1) k) ?_
      refine own_S (mkF m 164 #[iv sx, iv fx, rv fi, rv un, iv sw, iv df, rv un, rv fi, rv pq, .val (.int 4), rv b4, rv op] [(.ref op)]) (fun _ k => XS.aload X817.here hx rfl (hb hby at_162) rfl rfl k) ?_
      obtain ⟨cq819, kq819, q819a, q819b, q819c⟩ := isOf hZ527 e817 F762
      obtain ⟨_, _, ⟨T819, L819, k819, n819⟩, -, X819, ⟨Lc819, hQ819, l819, y819, z819⟩, st819⟩ := X817.virtualBack hx (y := own_y16) (z := own_y16) hown527 (mvT hZ527 (own_g hw (i := 114) rfl)) (mvT hZ527 (own_g hw (i := 115) rfl)) (notFace_of_selects (args := #[]) (mvT hZ527 (own_g hw (i := 117) rfl))) (mvT hZ527 (own_g hw (i := 117) rfl)) (mvT hZ527 (own_g hw (i := 116) rfl)) (by decide) (backOf (W := 0) (own_rmog l Z a0 hw [] (op) (un) T761.heap n0 Z761 F763) hZ527 (own_g hw (i := 118) rfl) (own_g hw (i := 83) rfl) (by decide) (by decide)) q819a q819c (g := (mkF m 164 #[iv sx, iv fx, rv fi, rv un, iv sw, iv df, rv un, rv fi, rv pq, .val (.int 4), rv b4, rv op] [(.ref op)])) rfl (by rw [hml]; rfl) (Steps.refl _) (argsL := []) (rest := []) (lenOf own_pd___Ljava_lang_Object_ rfl) rfl (by show 2 * 0 + _ ≤ _; exact Nat.le_of_eq rfl) (hb hby at_164) (fun _ _ => ⟨rfl, e817, (by decide : 7 + 0 ≤ _), (by decide : 91 + 0 ≤ _)⟩)
      dsimp only [Pt.U, Pt.locs, Pt.cells, Pt.slots] at X819 l819 y819 z819 st819 hQ819
      subst l819 y819 z819
      obtain ⟨rfl, N819q, e819⟩ := hQ819
      have N819 := Fr.app N817 N819q
      refine own_S (mkF m 167 #[iv sx, iv fx, rv fi, rv un, iv sw, iv df, rv un, rv fi, rv pq, .val (.int 4), rv b4, rv op] [(.ref un)]) (fun _ k => st819.trans k) ?_
      refine own_S (mkF m 169 #[iv sx, iv fx, rv fi, rv un, iv sw, iv df, rv un, rv fi, rv pq, .val (.int 4), rv b4, rv op] [(.ref un), (.ref un)]) (fun _ k => XS.aload X819.here hx rfl (hb hby at_167) rfl rfl k) ?_
      have hc820 : un = un := rfl
      refine own_S (mkF m 172 #[iv sx, iv fx, rv fi, rv un, iv sw, iv df, rv un, rv fi, rv pq, .val (.int 4), rv b4, rv op] []) (fun _ k => acmp X819 hx rfl rfl rfl (pc0 := 169) (pc' := 172) (same := true) rfl (hb hby at_169) rfl (by simp [hc820]) (by decide) (by decide) k) ?_
      refine own_S (mkF m 173 #[iv sx, iv fx, rv fi, rv un, iv sw, iv df, rv un, rv fi, rv pq, .val (.int 4), rv b4, rv op] [(.int 1)]) (fun _ k => XS.iconst X819.here hx rfl (hb hby at_172) k) ?_
      refine own_S (mkF m 177 #[iv sx, iv fx, rv fi, rv un, iv sw, iv df, rv un, rv fi, rv pq, .val (.int 4), rv b4, rv op] [(.int 1)]) (fun _ k => XS.goto X819.here hx rfl (pc0 := 173) (pc' := 177) rfl (hb hby at_173) (by decide) (by decide) k) ?_
      exact own_retWN (vm₁ := T527.vm) X819 hS527 (show _ ≤ T819.heap.size by rw [e819]; exact hk761) hx hlk (t := .boolean) hret (by simp) (hb hby at_177) (by rw [e819]; exact ⟨rfl, N819, trivial⟩) (by decide) (by decide)
    · -- kk = 5
      subst q570_5
      refine own_S (mkF m 91 #[iv sx, iv fx, rv fi, rv un, iv sw, iv df, rv un, rv fi, rv pq, .val (.int 5), .unset, .unset] [(.int 5)]) (fun _ k => XS.iload X527.here hx rfl (hb hby at_89) rfl k) ?_
      obtain ⟨_, _, ⟨T821, L821, k821, n821⟩, -, X821, ⟨Lc821, hQ821, l821, y821, z821⟩, st821⟩ := Jvm.LawKit.callS X527 hx (y := own_y10) hown527 (mvT hZ527 (own_g hw (i := 69) rfl)) (mvT hZ527 (own_g hw (i := 70) rfl)) (mvT hZ527 (own_g hw (i := 71) rfl)) (mvT hZ527 (own_g hw (i := 72) rfl)) (by decide) (backOf (W := 0) (own_rmst5 l Z a0 hw [] (b5) T527.heap n0 Z527 F559) hZ527 (own_g hw (i := 72) rfl) (own_g hw (i := 71) rfl) (by decide) (by decide)) (g := (mkF m 91 #[iv sx, iv fx, rv fi, rv un, iv sw, iv df, rv un, rv fi, rv pq, .val (.int 5), .unset, .unset] [(.int 5)])) rfl (by rw [hml]; rfl) (argsL := [(.int 5)]) (rest := []) (lenOf own_pd__I_Lcom_example_purgatory_purgatory_model_QueueItemStatus_ rfl) rfl (by show 2 * 0 + _ ≤ _; exact Nat.le_of_eq rfl) (hb hby at_91) (fun _ _ => ⟨rfl, rfl, (by decide : 6 + 0 ≤ _), (by decide : 90 + 0 ≤ _)⟩)
      dsimp only [Pt.U, Pt.locs, Pt.cells, Pt.slots] at X821 l821 y821 z821 st821 hQ821
      subst l821 y821 z821
      obtain ⟨rfl, N821q, e821⟩ := hQ821
      have N821 := Fr.app N527 N821q
      refine own_S (mkF m 94 #[iv sx, iv fx, rv fi, rv un, iv sw, iv df, rv un, rv fi, rv pq, .val (.int 5), .unset, .unset] [(.ref b5)]) (fun _ k => st821 _ k) ?_
      refine own_S (mkF m 96 #[iv sx, iv fx, rv fi, rv un, iv sw, iv df, rv un, rv fi, rv pq, .val (.int 5), rv b5, .unset] []) (fun _ k => XS.astore X821.here hx rfl (hb hby at_94) rfl rfl (l' := #[iv sx, iv fx, rv fi, rv un, iv sw, iv df, rv un, rv fi, rv pq, .val (.int 5), rv b5, .unset]) rfl k) ?_
      refine own_S (mkF m 98 #[iv sx, iv fx, rv fi, rv un, iv sw, iv df, rv un, rv fi, rv pq, .val (.int 5), rv b5, .unset] [(.ref pq)]) (fun _ k => XS.aload X821.here hx rfl (hb hby at_96) rfl rfl k) ?_
      refine own_S (mkF m 100 #[iv sx, iv fx, rv fi, rv un, iv sw, iv df, rv un, rv fi, rv pq, .val (.int 5), rv b5, .unset] [(.ref b5), (.ref pq)]) (fun _ k => XS.aload X821.here hx rfl (hb hby at_98) rfl rfl k) ?_
      obtain ⟨cq822, kq822, q822a, q822b, q822c⟩ := isOf hZ527 e821 F528
      obtain ⟨_, _, ⟨T822, L822, k822, n822⟩, -, X822, ⟨Lc822, hQ822, l822, y822, z822⟩, st822⟩ := X821.virtualBack hx (y := own_y14) (z := own_y14) hown527 (mvT hZ527 (own_g hw (i := 76) rfl)) (mvT hZ527 (own_g hw (i := 77) rfl)) (notFace_of_selects (args := #[]) (mvT hZ527 (own_g hw (i := 79) rfl))) (mvT hZ527 (own_g hw (i := 79) rfl)) (mvT hZ527 (own_g hw (i := 78) rfl)) (by decide) (backOf (W := 0) (own_rmr1 l Z a0 hw [] (pq) (b5) (un) (em) T527.heap n0 Z527 F560 F561 F529 F541) hZ527 (own_g hw (i := 80) rfl) (own_g hw (i := 1) rfl) (by decide) (by decide)) q822a q822c (g := (mkF m 100 #[iv sx, iv fx, rv fi, rv un, iv sw, iv df, rv un, rv fi, rv pq, .val (.int 5), rv b5, .unset] [(.ref b5), (.ref pq)])) rfl (by rw [hml]; rfl) (Steps.refl _) (argsL := [(.ref b5)]) (rest := []) (lenOf own_pd__Lcom_example_purgatory_purgatory_model_QueueItemStatus__Ljava_util_Optional_ rfl) rfl (by show 2 * 0 + _ ≤ _; exact Nat.le_of_eq rfl) (hb hby at_100) (fun _ _ => ⟨rfl, e821, (by decide : 6 + 1 ≤ _), (by decide : 90 + 1 ≤ _)⟩)
      dsimp only [Pt.U, Pt.locs, Pt.cells, Pt.slots] at X822 l822 y822 z822 st822 hQ822
      subst l822 y822 z822
      obtain ⟨op, rfl, N822q, K822q, F823, F824, pp825⟩ := hQ822
      have N822 := Fr.app N821 N822q
      refine own_S (mkF m 103 #[iv sx, iv fx, rv fi, rv un, iv sw, iv df, rv un, rv fi, rv pq, .val (.int 5), rv b5, .unset] [(.ref op)]) (fun _ k => st822.trans k) ?_
      have n826 : qd ≠ op := Nat.ne_of_lt (Nat.lt_of_lt_of_le F532.lt pp825)
      have n827 : fi ≠ op := Nat.ne_of_lt (Nat.lt_of_lt_of_le F535.lt pp825)
      have n828 : un ≠ op := Nat.ne_of_lt (Nat.lt_of_lt_of_le F536.lt pp825)
      have n829 : dl ≠ op := Nat.ne_of_lt (Nat.lt_of_lt_of_le F539.lt pp825)
      have n830 : em ≠ op := Nat.ne_of_lt (Nat.lt_of_lt_of_le F542.lt pp825)
      have n831 : b0 ≠ op := Nat.ne_of_lt (Nat.lt_of_lt_of_le F545.lt pp825)
      have n832 : b1 ≠ op := Nat.ne_of_lt (Nat.lt_of_lt_of_le F548.lt pp825)
      have n833 : b2 ≠ op := Nat.ne_of_lt (Nat.lt_of_lt_of_le F551.lt pp825)
      have n834 : b3 ≠ op := Nat.ne_of_lt (Nat.lt_of_lt_of_le F554.lt pp825)
      have n835 : b4 ≠ op := Nat.ne_of_lt (Nat.lt_of_lt_of_le F557.lt pp825)
      have n836 : b5 ≠ op := Nat.ne_of_lt (Nat.lt_of_lt_of_le F560.lt pp825)
      have n837 : b6 ≠ op := Nat.ne_of_lt (Nat.lt_of_lt_of_le F563.lt pp825)
      have n838 : pq ≠ op := Nat.ne_of_lt (Nat.lt_of_lt_of_le F528.lt pp825)
      have ge_op : n0 ≤ op := Nat.le_trans Z527 pp825
      have F839 := F531.ext ⟨K822q.1, fun a c q => K822q.2.1 a c q nin0⟩
      have F840 := F532.keep K822q
      have F841 := F533.keep K822q nin0
      have F842 := F534.keep K822q nin0
      have F843 := F535.keep K822q
      have F844 := F536.keep K822q
      have F845 := F537.keep K822q nin0
      have F846 := F538.keep K822q nin0
      have F847 := F539.keep K822q
      have F848 := F540.keep K822q nin0
      have F849 := F541.ext ⟨K822q.1, fun a c q => K822q.2.1 a c q nin0⟩
      have F850 := F542.keep K822q
      have F851 := F543.keep K822q nin0
      have F852 := F544.ext ⟨K822q.1, fun a c q => K822q.2.1 a c q nin0⟩
      have F853 := F545.keep K822q
      have F854 := F546.keep K822q nin0
      have F855 := F547.ext ⟨K822q.1, fun a c q => K822q.2.1 a c q nin0⟩
      have F856 := F548.keep K822q
      have F857 := F549.keep K822q nin0
      have F858 := F550.ext ⟨K822q.1, fun a c q => K822q.2.1 a c q nin0⟩
      have F859 := F551.keep K822q
      have F860 := F552.keep K822q nin0
      have F861 := F553.ext ⟨K822q.1, fun a c q => K822q.2.1 a c q nin0⟩
      have F862 := F554.keep K822q
      have F863 := F555.keep K822q nin0
      have F864 := F556.ext ⟨K822q.1, fun a c q => K822q.2.1 a c q nin0⟩
      have F865 := F557.keep K822q
      have F866 := F558.keep K822q nin0
      have F867 := F559.ext ⟨K822q.1, fun a c q => K822q.2.1 a c q nin0⟩
      have F868 := F560.keep K822q
      have F869 := F561.keep K822q nin0
      have F870 := F562.ext ⟨K822q.1, fun a c q => K822q.2.1 a c q nin0⟩
      have F871 := F563.keep K822q
      have F872 := F564.keep K822q nin0
      have F873 := F528.keep K822q
      have F874 := F529.keep K822q nin0
      have F875 := F530.keep K822q nin0
      have Z822 : n0 ≤ T822.heap.size := Nat.le_trans Z527 K822q.1
      have hk822 : T527.heap.size ≤ T822.heap.size := Nat.le_trans (Nat.le_refl T527.heap.size) K822q.1
      refine own_S (mkF m 105 #[iv sx, iv fx, rv fi, rv un, iv sw, iv df, rv un, rv fi, rv pq, .val (.int 5), rv b5, rv op] []) (fun _ k => XS.astore X822.here hx rfl (hb hby at_103) rfl rfl (l' := #[iv sx, iv fx, rv fi, rv un, iv sw, iv df, rv un, rv fi, rv pq, .val (.int 5), rv b5, rv op]) rfl k) ?_
      refine own_S (mkF m 107 #[iv sx, iv fx, rv fi, rv un, iv sw, iv df, rv un, rv fi, rv pq, .val (.int 5), rv b5, rv op] [(.int 5)]) (fun _ k => XS.iload X822.here hx rfl (hb hby at_105) rfl k) ?_
      have hc876 : ¬ ((5 : Int32) = (0 : Int32)) := by decide
      refine own_S (mkF m 134 #[iv sx, iv fx, rv fi, rv un, iv sw, iv df, rv un, rv fi, rv pq, .val (.int 5), rv b5, rv op] []) (fun _ k => XS.ifYes X822.here hx rfl (pc0 := 107) (pc' := 134) rfl (hb hby at_107) rfl ((if0 _ _).trans (feq hc876).2) (by decide) (by decide) k) ?_
      refine own_S (mkF m 136 #[iv sx, iv fx, rv fi, rv un, iv sw, iv df, rv un, rv fi, rv pq, .val (.int 5), rv b5, rv op] [(.int 5)]) (fun _ k => XS.iload X822.here hx rfl (hb hby at_134) rfl k) ?_
      refine own_S (mkF m 137 #[iv sx, iv fx, rv fi, rv un, iv sw, iv df, rv un, rv fi, rv pq, .val (.int 5), rv b5, rv op] [(.int 1), (.int 5)]) (fun _ k => XS.iconst X822.here hx rfl (hb hby at_136) k) ?_
      have hc877 : ¬ ((5 : Int32) = (1 : Int32)) := by decide
      refine own_S (mkF m 154 #[iv sx, iv fx, rv fi, rv un, iv sw, iv df, rv un, rv fi, rv pq, .val (.int 5), rv b5, rv op] []) (fun _ k => XS.icmpYes X822.here hx rfl (pc0 := 137) (pc' := 154) rfl (hb hby at_137) rfl (feq hc877).2 (by decide) (by decide) k) ?_
      refine own_S (mkF m 156 #[iv sx, iv fx, rv fi, rv un, iv sw, iv df, rv un, rv fi, rv pq, .val (.int 5), rv b5, rv op] [(.ref op)]) (fun _ k => XS.aload X822.here hx rfl (hb hby at_154) rfl rfl k) ?_
      obtain ⟨cq878, kq878, q878a, q878b, q878c⟩ := isOf hZ527 rfl F823
      obtain ⟨_, _, ⟨T878, L878, k878, n878⟩, -, X878, ⟨Lc878, hQ878, l878, y878, z878⟩, st878⟩ := X822.virtualBack hx (y := own_y15) (z := own_y15) hown527 (mvT hZ527 (own_g hw (i := 109) rfl)) (mvT hZ527 (own_g hw (i := 110) rfl)) (notFace_of_selects (args := #[]) (mvT hZ527 (own_g hw (i := 112) rfl))) (mvT hZ527 (own_g hw (i := 112) rfl)) (mvT hZ527 (own_g hw (i := 111) rfl)) (by decide) (backOf (W := 0) (own_rmip1 l Z a0 hw [] (op) (un) T822.heap n0 Z822 F824) hZ527 (own_g hw (i := 113) rfl) (own_g hw (i := 83) rfl) (by decide) (by decide)) q878a q878c (g := (mkF m 156 #[iv sx, iv fx, rv fi, rv un, iv sw, iv df, rv un, rv fi, rv pq, .val (.int 5), rv b5, rv op] [(.ref op)])) rfl (by rw [hml]; rfl) (Steps.refl _) (argsL := []) (rest := []) (lenOf own_pd___Z rfl) rfl (by show 2 * 0 + _ ≤ _; exact Nat.le_of_eq rfl) (hb hby at_156) (fun _ _ => ⟨rfl, rfl, (by decide : 7 + 0 ≤ _), (by decide : 91 + 0 ≤ _)⟩)
      dsimp only [Pt.U, Pt.locs, Pt.cells, Pt.slots] at X878 l878 y878 z878 st878 hQ878
      subst l878 y878 z878
      obtain ⟨rfl, N878q, e878⟩ := hQ878
      have N878 := Fr.app N822 N878q
      refine own_S (mkF m 159 #[iv sx, iv fx, rv fi, rv un, iv sw, iv df, rv un, rv fi, rv pq, .val (.int 5), rv b5, rv op] [(.int 1)]) (fun _ k => st878.trans k) ?_
      have hc879 : ¬ ((1 : Int32) = (0 : Int32)) := by decide
      refine own_S (mkF m 162 #[iv sx, iv fx, rv fi, rv un, iv sw, iv df, rv un, rv fi, rv pq, .val (.int 5), rv b5, rv op] []) (fun _ k => XS.ifNo X878.here hx rfl (hb hby at_159) rfl ((if0 _ _).trans (feq hc879).1) k) ?_
      refine own_S (mkF m 164 #[iv sx, iv fx, rv fi, rv un, iv sw, iv df, rv un, rv fi, rv pq, .val (.int 5), rv b5, rv op] [(.ref op)]) (fun _ k => XS.aload X878.here hx rfl (hb hby at_162) rfl rfl k) ?_
      obtain ⟨cq880, kq880, q880a, q880b, q880c⟩ := isOf hZ527 e878 F823
      obtain ⟨_, _, ⟨T880, L880, k880, n880⟩, -, X880, ⟨Lc880, hQ880, l880, y880, z880⟩, st880⟩ := X878.virtualBack hx (y := own_y16) (z := own_y16) hown527 (mvT hZ527 (own_g hw (i := 114) rfl)) (mvT hZ527 (own_g hw (i := 115) rfl)) (notFace_of_selects (args := #[]) (mvT hZ527 (own_g hw (i := 117) rfl))) (mvT hZ527 (own_g hw (i := 117) rfl)) (mvT hZ527 (own_g hw (i := 116) rfl)) (by decide) (backOf (W := 0) (own_rmog l Z a0 hw [] (op) (un) T822.heap n0 Z822 F824) hZ527 (own_g hw (i := 118) rfl) (own_g hw (i := 83) rfl) (by decide) (by decide)) q880a q880c (g := (mkF m 164 #[iv sx, iv fx, rv fi, rv un, iv sw, iv df, rv un, rv fi, rv pq, .val (.int 5), rv b5, rv op] [(.ref op)])) rfl (by rw [hml]; rfl) (Steps.refl _) (argsL := []) (rest := []) (lenOf own_pd___Ljava_lang_Object_ rfl) rfl (by show 2 * 0 + _ ≤ _; exact Nat.le_of_eq rfl) (hb hby at_164) (fun _ _ => ⟨rfl, e878, (by decide : 7 + 0 ≤ _), (by decide : 91 + 0 ≤ _)⟩)
      dsimp only [Pt.U, Pt.locs, Pt.cells, Pt.slots] at X880 l880 y880 z880 st880 hQ880
      subst l880 y880 z880
      obtain ⟨rfl, N880q, e880⟩ := hQ880
      have N880 := Fr.app N878 N880q
      refine own_S (mkF m 167 #[iv sx, iv fx, rv fi, rv un, iv sw, iv df, rv un, rv fi, rv pq, .val (.int 5), rv b5, rv op] [(.ref un)]) (fun _ k => st880.trans k) ?_
      refine own_S (mkF m 169 #[iv sx, iv fx, rv fi, rv un, iv sw, iv df, rv un, rv fi, rv pq, .val (.int 5), rv b5, rv op] [(.ref un), (.ref un)]) (fun _ k => XS.aload X880.here hx rfl (hb hby at_167) rfl rfl k) ?_
      have hc881 : un = un := rfl
      refine own_S (mkF m 172 #[iv sx, iv fx, rv fi, rv un, iv sw, iv df, rv un, rv fi, rv pq, .val (.int 5), rv b5, rv op] []) (fun _ k => acmp X880 hx rfl rfl rfl (pc0 := 169) (pc' := 172) (same := true) rfl (hb hby at_169) rfl (by simp [hc881]) (by decide) (by decide) k) ?_
      refine own_S (mkF m 173 #[iv sx, iv fx, rv fi, rv un, iv sw, iv df, rv un, rv fi, rv pq, .val (.int 5), rv b5, rv op] [(.int 1)]) (fun _ k => XS.iconst X880.here hx rfl (hb hby at_172) k) ?_
      refine own_S (mkF m 177 #[iv sx, iv fx, rv fi, rv un, iv sw, iv df, rv un, rv fi, rv pq, .val (.int 5), rv b5, rv op] [(.int 1)]) (fun _ k => XS.goto X880.here hx rfl (pc0 := 173) (pc' := 177) rfl (hb hby at_173) (by decide) (by decide) k) ?_
      exact own_retWN (vm₁ := T527.vm) X880 hS527 (show _ ≤ T880.heap.size by rw [e880]; exact hk822) hx hlk (t := .boolean) hret (by simp) (hb hby at_177) (by rw [e880]; exact ⟨rfl, N880, trivial⟩) (by decide) (by decide)
    · -- kk = 6
      subst q571_6
      refine own_S (mkF m 91 #[iv sx, iv fx, rv fi, rv un, iv sw, iv df, rv un, rv fi, rv pq, .val (.int 6), .unset, .unset] [(.int 6)]) (fun _ k => XS.iload X527.here hx rfl (hb hby at_89) rfl k) ?_
      obtain ⟨_, _, ⟨T882, L882, k882, n882⟩, -, X882, ⟨Lc882, hQ882, l882, y882, z882⟩, st882⟩ := Jvm.LawKit.callS X527 hx (y := own_y10) hown527 (mvT hZ527 (own_g hw (i := 69) rfl)) (mvT hZ527 (own_g hw (i := 70) rfl)) (mvT hZ527 (own_g hw (i := 71) rfl)) (mvT hZ527 (own_g hw (i := 72) rfl)) (by decide) (backOf (W := 0) (own_rmst6 l Z a0 hw [] (b6) T527.heap n0 Z527 F562) hZ527 (own_g hw (i := 72) rfl) (own_g hw (i := 71) rfl) (by decide) (by decide)) (g := (mkF m 91 #[iv sx, iv fx, rv fi, rv un, iv sw, iv df, rv un, rv fi, rv pq, .val (.int 6), .unset, .unset] [(.int 6)])) rfl (by rw [hml]; rfl) (argsL := [(.int 6)]) (rest := []) (lenOf own_pd__I_Lcom_example_purgatory_purgatory_model_QueueItemStatus_ rfl) rfl (by show 2 * 0 + _ ≤ _; exact Nat.le_of_eq rfl) (hb hby at_91) (fun _ _ => ⟨rfl, rfl, (by decide : 6 + 0 ≤ _), (by decide : 90 + 0 ≤ _)⟩)
      dsimp only [Pt.U, Pt.locs, Pt.cells, Pt.slots] at X882 l882 y882 z882 st882 hQ882
      subst l882 y882 z882
      obtain ⟨rfl, N882q, e882⟩ := hQ882
      have N882 := Fr.app N527 N882q
      refine own_S (mkF m 94 #[iv sx, iv fx, rv fi, rv un, iv sw, iv df, rv un, rv fi, rv pq, .val (.int 6), .unset, .unset] [(.ref b6)]) (fun _ k => st882 _ k) ?_
      refine own_S (mkF m 96 #[iv sx, iv fx, rv fi, rv un, iv sw, iv df, rv un, rv fi, rv pq, .val (.int 6), rv b6, .unset] []) (fun _ k => XS.astore X882.here hx rfl (hb hby at_94) rfl rfl (l' := #[iv sx, iv fx, rv fi, rv un, iv sw, iv df, rv un, rv fi, rv pq, .val (.int 6), rv b6, .unset]) rfl k) ?_
      refine own_S (mkF m 98 #[iv sx, iv fx, rv fi, rv un, iv sw, iv df, rv un, rv fi, rv pq, .val (.int 6), rv b6, .unset] [(.ref pq)]) (fun _ k => XS.aload X882.here hx rfl (hb hby at_96) rfl rfl k) ?_
      refine own_S (mkF m 100 #[iv sx, iv fx, rv fi, rv un, iv sw, iv df, rv un, rv fi, rv pq, .val (.int 6), rv b6, .unset] [(.ref b6), (.ref pq)]) (fun _ k => XS.aload X882.here hx rfl (hb hby at_98) rfl rfl k) ?_
      obtain ⟨cq883, kq883, q883a, q883b, q883c⟩ := isOf hZ527 e882 F528
      obtain ⟨_, _, ⟨T883, L883, k883, n883⟩, -, X883, ⟨Lc883, hQ883, l883, y883, z883⟩, st883⟩ := X882.virtualBack hx (y := own_y14) (z := own_y14) hown527 (mvT hZ527 (own_g hw (i := 76) rfl)) (mvT hZ527 (own_g hw (i := 77) rfl)) (notFace_of_selects (args := #[]) (mvT hZ527 (own_g hw (i := 79) rfl))) (mvT hZ527 (own_g hw (i := 79) rfl)) (mvT hZ527 (own_g hw (i := 78) rfl)) (by decide) (backOf (W := 0) (own_rmr1 l Z a0 hw [] (pq) (b6) (un) (em) T527.heap n0 Z527 F563 F564 F529 F541) hZ527 (own_g hw (i := 80) rfl) (own_g hw (i := 1) rfl) (by decide) (by decide)) q883a q883c (g := (mkF m 100 #[iv sx, iv fx, rv fi, rv un, iv sw, iv df, rv un, rv fi, rv pq, .val (.int 6), rv b6, .unset] [(.ref b6), (.ref pq)])) rfl (by rw [hml]; rfl) (Steps.refl _) (argsL := [(.ref b6)]) (rest := []) (lenOf own_pd__Lcom_example_purgatory_purgatory_model_QueueItemStatus__Ljava_util_Optional_ rfl) rfl (by show 2 * 0 + _ ≤ _; exact Nat.le_of_eq rfl) (hb hby at_100) (fun _ _ => ⟨rfl, e882, (by decide : 6 + 1 ≤ _), (by decide : 90 + 1 ≤ _)⟩)
      dsimp only [Pt.U, Pt.locs, Pt.cells, Pt.slots] at X883 l883 y883 z883 st883 hQ883
      subst l883 y883 z883
      obtain ⟨op, rfl, N883q, K883q, F884, F885, pp886⟩ := hQ883
      have N883 := Fr.app N882 N883q
      refine own_S (mkF m 103 #[iv sx, iv fx, rv fi, rv un, iv sw, iv df, rv un, rv fi, rv pq, .val (.int 6), rv b6, .unset] [(.ref op)]) (fun _ k => st883.trans k) ?_
      have n887 : qd ≠ op := Nat.ne_of_lt (Nat.lt_of_lt_of_le F532.lt pp886)
      have n888 : fi ≠ op := Nat.ne_of_lt (Nat.lt_of_lt_of_le F535.lt pp886)
      have n889 : un ≠ op := Nat.ne_of_lt (Nat.lt_of_lt_of_le F536.lt pp886)
      have n890 : dl ≠ op := Nat.ne_of_lt (Nat.lt_of_lt_of_le F539.lt pp886)
      have n891 : em ≠ op := Nat.ne_of_lt (Nat.lt_of_lt_of_le F542.lt pp886)
      have n892 : b0 ≠ op := Nat.ne_of_lt (Nat.lt_of_lt_of_le F545.lt pp886)
      have n893 : b1 ≠ op := Nat.ne_of_lt (Nat.lt_of_lt_of_le F548.lt pp886)
      have n894 : b2 ≠ op := Nat.ne_of_lt (Nat.lt_of_lt_of_le F551.lt pp886)
      have n895 : b3 ≠ op := Nat.ne_of_lt (Nat.lt_of_lt_of_le F554.lt pp886)
      have n896 : b4 ≠ op := Nat.ne_of_lt (Nat.lt_of_lt_of_le F557.lt pp886)
      have n897 : b5 ≠ op := Nat.ne_of_lt (Nat.lt_of_lt_of_le F560.lt pp886)
      have n898 : b6 ≠ op := Nat.ne_of_lt (Nat.lt_of_lt_of_le F563.lt pp886)
      have n899 : pq ≠ op := Nat.ne_of_lt (Nat.lt_of_lt_of_le F528.lt pp886)
      have ge_op : n0 ≤ op := Nat.le_trans Z527 pp886
      have F900 := F531.ext ⟨K883q.1, fun a c q => K883q.2.1 a c q nin0⟩
      have F901 := F532.keep K883q
      have F902 := F533.keep K883q nin0
      have F903 := F534.keep K883q nin0
      have F904 := F535.keep K883q
      have F905 := F536.keep K883q
      have F906 := F537.keep K883q nin0
      have F907 := F538.keep K883q nin0
      have F908 := F539.keep K883q
      have F909 := F540.keep K883q nin0
      have F910 := F541.ext ⟨K883q.1, fun a c q => K883q.2.1 a c q nin0⟩
      have F911 := F542.keep K883q
      have F912 := F543.keep K883q nin0
      have F913 := F544.ext ⟨K883q.1, fun a c q => K883q.2.1 a c q nin0⟩
      have F914 := F545.keep K883q
      have F915 := F546.keep K883q nin0
      have F916 := F547.ext ⟨K883q.1, fun a c q => K883q.2.1 a c q nin0⟩
      have F917 := F548.keep K883q
      have F918 := F549.keep K883q nin0
      have F919 := F550.ext ⟨K883q.1, fun a c q => K883q.2.1 a c q nin0⟩
      have F920 := F551.keep K883q
      have F921 := F552.keep K883q nin0
      have F922 := F553.ext ⟨K883q.1, fun a c q => K883q.2.1 a c q nin0⟩
      have F923 := F554.keep K883q
      have F924 := F555.keep K883q nin0
      have F925 := F556.ext ⟨K883q.1, fun a c q => K883q.2.1 a c q nin0⟩
      have F926 := F557.keep K883q
      have F927 := F558.keep K883q nin0
      have F928 := F559.ext ⟨K883q.1, fun a c q => K883q.2.1 a c q nin0⟩
      have F929 := F560.keep K883q
      have F930 := F561.keep K883q nin0
      have F931 := F562.ext ⟨K883q.1, fun a c q => K883q.2.1 a c q nin0⟩
      have F932 := F563.keep K883q
      have F933 := F564.keep K883q nin0
      have F934 := F528.keep K883q
      have F935 := F529.keep K883q nin0
      have F936 := F530.keep K883q nin0
      have Z883 : n0 ≤ T883.heap.size := Nat.le_trans Z527 K883q.1
      have hk883 : T527.heap.size ≤ T883.heap.size := Nat.le_trans (Nat.le_refl T527.heap.size) K883q.1
      refine own_S (mkF m 105 #[iv sx, iv fx, rv fi, rv un, iv sw, iv df, rv un, rv fi, rv pq, .val (.int 6), rv b6, rv op] []) (fun _ k => XS.astore X883.here hx rfl (hb hby at_103) rfl rfl (l' := #[iv sx, iv fx, rv fi, rv un, iv sw, iv df, rv un, rv fi, rv pq, .val (.int 6), rv b6, rv op]) rfl k) ?_
      refine own_S (mkF m 107 #[iv sx, iv fx, rv fi, rv un, iv sw, iv df, rv un, rv fi, rv pq, .val (.int 6), rv b6, rv op] [(.int 6)]) (fun _ k => XS.iload X883.here hx rfl (hb hby at_105) rfl k) ?_
      have hc937 : ¬ ((6 : Int32) = (0 : Int32)) := by decide
      refine own_S (mkF m 134 #[iv sx, iv fx, rv fi, rv un, iv sw, iv df, rv un, rv fi, rv pq, .val (.int 6), rv b6, rv op] []) (fun _ k => XS.ifYes X883.here hx rfl (pc0 := 107) (pc' := 134) rfl (hb hby at_107) rfl ((if0 _ _).trans (feq hc937).2) (by decide) (by decide) k) ?_
      refine own_S (mkF m 136 #[iv sx, iv fx, rv fi, rv un, iv sw, iv df, rv un, rv fi, rv pq, .val (.int 6), rv b6, rv op] [(.int 6)]) (fun _ k => XS.iload X883.here hx rfl (hb hby at_134) rfl k) ?_
      refine own_S (mkF m 137 #[iv sx, iv fx, rv fi, rv un, iv sw, iv df, rv un, rv fi, rv pq, .val (.int 6), rv b6, rv op] [(.int 1), (.int 6)]) (fun _ k => XS.iconst X883.here hx rfl (hb hby at_136) k) ?_
      have hc938 : ¬ ((6 : Int32) = (1 : Int32)) := by decide
      refine own_S (mkF m 154 #[iv sx, iv fx, rv fi, rv un, iv sw, iv df, rv un, rv fi, rv pq, .val (.int 6), rv b6, rv op] []) (fun _ k => XS.icmpYes X883.here hx rfl (pc0 := 137) (pc' := 154) rfl (hb hby at_137) rfl (feq hc938).2 (by decide) (by decide) k) ?_
      refine own_S (mkF m 156 #[iv sx, iv fx, rv fi, rv un, iv sw, iv df, rv un, rv fi, rv pq, .val (.int 6), rv b6, rv op] [(.ref op)]) (fun _ k => XS.aload X883.here hx rfl (hb hby at_154) rfl rfl k) ?_
      obtain ⟨cq939, kq939, q939a, q939b, q939c⟩ := isOf hZ527 rfl F884
      obtain ⟨_, _, ⟨T939, L939, k939, n939⟩, -, X939, ⟨Lc939, hQ939, l939, y939, z939⟩, st939⟩ := X883.virtualBack hx (y := own_y15) (z := own_y15) hown527 (mvT hZ527 (own_g hw (i := 109) rfl)) (mvT hZ527 (own_g hw (i := 110) rfl)) (notFace_of_selects (args := #[]) (mvT hZ527 (own_g hw (i := 112) rfl))) (mvT hZ527 (own_g hw (i := 112) rfl)) (mvT hZ527 (own_g hw (i := 111) rfl)) (by decide) (backOf (W := 0) (own_rmip1 l Z a0 hw [] (op) (un) T883.heap n0 Z883 F885) hZ527 (own_g hw (i := 113) rfl) (own_g hw (i := 83) rfl) (by decide) (by decide)) q939a q939c (g := (mkF m 156 #[iv sx, iv fx, rv fi, rv un, iv sw, iv df, rv un, rv fi, rv pq, .val (.int 6), rv b6, rv op] [(.ref op)])) rfl (by rw [hml]; rfl) (Steps.refl _) (argsL := []) (rest := []) (lenOf own_pd___Z rfl) rfl (by show 2 * 0 + _ ≤ _; exact Nat.le_of_eq rfl) (hb hby at_156) (fun _ _ => ⟨rfl, rfl, (by decide : 7 + 0 ≤ _), (by decide : 91 + 0 ≤ _)⟩)
      dsimp only [Pt.U, Pt.locs, Pt.cells, Pt.slots] at X939 l939 y939 z939 st939 hQ939
      subst l939 y939 z939
      obtain ⟨rfl, N939q, e939⟩ := hQ939
      have N939 := Fr.app N883 N939q
      refine own_S (mkF m 159 #[iv sx, iv fx, rv fi, rv un, iv sw, iv df, rv un, rv fi, rv pq, .val (.int 6), rv b6, rv op] [(.int 1)]) (fun _ k => st939.trans k) ?_
      have hc940 : ¬ ((1 : Int32) = (0 : Int32)) := by decide
      refine own_S (mkF m 162 #[iv sx, iv fx, rv fi, rv un, iv sw, iv df, rv un, rv fi, rv pq, .val (.int 6), rv b6, rv op] []) (fun _ k => XS.ifNo X939.here hx rfl (hb hby at_159) rfl ((if0 _ _).trans (feq hc940).1) k) ?_
      refine own_S (mkF m 164 #[iv sx, iv fx, rv fi, rv un, iv sw, iv df, rv un, rv fi, rv pq, .val (.int 6), rv b6, rv op] [(.ref op)]) (fun _ k => XS.aload X939.here hx rfl (hb hby at_162) rfl rfl k) ?_
      obtain ⟨cq941, kq941, q941a, q941b, q941c⟩ := isOf hZ527 e939 F884
      obtain ⟨_, _, ⟨T941, L941, k941, n941⟩, -, X941, ⟨Lc941, hQ941, l941, y941, z941⟩, st941⟩ := X939.virtualBack hx (y := own_y16) (z := own_y16) hown527 (mvT hZ527 (own_g hw (i := 114) rfl)) (mvT hZ527 (own_g hw (i := 115) rfl)) (notFace_of_selects (args := #[]) (mvT hZ527 (own_g hw (i := 117) rfl))) (mvT hZ527 (own_g hw (i := 117) rfl)) (mvT hZ527 (own_g hw (i := 116) rfl)) (by decide) (backOf (W := 0) (own_rmog l Z a0 hw [] (op) (un) T883.heap n0 Z883 F885) hZ527 (own_g hw (i := 118) rfl) (own_g hw (i := 83) rfl) (by decide) (by decide)) q941a q941c (g := (mkF m 164 #[iv sx, iv fx, rv fi, rv un, iv sw, iv df, rv un, rv fi, rv pq, .val (.int 6), rv b6, rv op] [(.ref op)])) rfl (by rw [hml]; rfl) (Steps.refl _) (argsL := []) (rest := []) (lenOf own_pd___Ljava_lang_Object_ rfl) rfl (by show 2 * 0 + _ ≤ _; exact Nat.le_of_eq rfl) (hb hby at_164) (fun _ _ => ⟨rfl, e939, (by decide : 7 + 0 ≤ _), (by decide : 91 + 0 ≤ _)⟩)
      dsimp only [Pt.U, Pt.locs, Pt.cells, Pt.slots] at X941 l941 y941 z941 st941 hQ941
      subst l941 y941 z941
      obtain ⟨rfl, N941q, e941⟩ := hQ941
      have N941 := Fr.app N939 N941q
      refine own_S (mkF m 167 #[iv sx, iv fx, rv fi, rv un, iv sw, iv df, rv un, rv fi, rv pq, .val (.int 6), rv b6, rv op] [(.ref un)]) (fun _ k => st941.trans k) ?_
      refine own_S (mkF m 169 #[iv sx, iv fx, rv fi, rv un, iv sw, iv df, rv un, rv fi, rv pq, .val (.int 6), rv b6, rv op] [(.ref un), (.ref un)]) (fun _ k => XS.aload X941.here hx rfl (hb hby at_167) rfl rfl k) ?_
      have hc942 : un = un := rfl
      refine own_S (mkF m 172 #[iv sx, iv fx, rv fi, rv un, iv sw, iv df, rv un, rv fi, rv pq, .val (.int 6), rv b6, rv op] []) (fun _ k => acmp X941 hx rfl rfl rfl (pc0 := 169) (pc' := 172) (same := true) rfl (hb hby at_169) rfl (by simp [hc942]) (by decide) (by decide) k) ?_
      refine own_S (mkF m 173 #[iv sx, iv fx, rv fi, rv un, iv sw, iv df, rv un, rv fi, rv pq, .val (.int 6), rv b6, rv op] [(.int 1)]) (fun _ k => XS.iconst X941.here hx rfl (hb hby at_172) k) ?_
      refine own_S (mkF m 177 #[iv sx, iv fx, rv fi, rv un, iv sw, iv df, rv un, rv fi, rv pq, .val (.int 6), rv b6, rv op] [(.int 1)]) (fun _ k => XS.goto X941.here hx rfl (pc0 := 173) (pc' := 177) rfl (hb hby at_173) (by decide) (by decide) k) ?_
      exact own_retWN (vm₁ := T527.vm) X941 hS527 (show _ ≤ T941.heap.size by rw [e941]; exact hk883) hx hlk (t := .boolean) hret (by simp) (hb hby at_177) (by rw [e941]; exact ⟨rfl, N941, trivial⟩) (by decide) (by decide)
set_option maxRecDepth 65536 in
set_option maxHeartbeats 40000000 in
theorem comes_1 {Post : Tables → Env → Array Value → State → Outcome → State → Prop} (hpost : ∀ tb e args s v u, (limb_1_1.after args s (.returned v) u = true ∧ limb_1_2.after args s (.returned v) u = true ∧ True) → ReturnedEndW s (.returned v) u (Jvm.fieldLocs frame_1_writes args s ++ Jvm.arrayLocs frame_1_arrays args s ++ Jvm.staticLocs frame_1_statics s) 24 2176 → Post tb e args s (.returned v) u) :
    ArmFor flags0 classFile x code maxLocals ret World_1 tables_1 room_1 Calls_1 rest_1 Pre_1 Post := by
  intro l hfl _ _ p e ha hc hk s m args below hf hA hF happ hP
  obtain ⟨hcalls, hrest, hpre⟩ := hP
  obtain ⟨-, -, -, hnamed, -, -, -, hat⟩ := (Spec.applies_iff hf).mp happ
  obtain ⟨hg, hn⟩ := and_e (Cond.before_iff.mp (show (Jvm.Cond.and given_1 narrow_1).before args s = true from hpre))
  obtain ⟨h1, g0⟩ := and_e hg
  obtain ⟨k0, g1⟩ := and_e g0
  have k1 := g1
  obtain ⟨w0, w1, rfl⟩ : ∃ w0 w1 : Value, args = #[w0, w1] := by
    have hs : args.size = 2 := by simpa [Cond.value, given_1] using h1
    obtain ⟨L⟩ := args
    match L, hs with
    | [w0, w1], _ => exact ⟨w0, w1, rfl⟩
  have hw := fun d (hd : d ∈ tables_1) => atoms_spec (ws := Jvm.Cond.code x code maxLocals ret :: tables_1) hat d (List.mem_cons_of_mem _ hd)
  obtain ⟨hsets, hown0⟩ := atoms_of _ (rest_1_c_eq ▸ (show rest_1_c.before _ s = true from hrest))
  have hfit : Fit s := fun {y c} hc i hi => by
    obtain ⟨ha, rfl⟩ := Array.getElem?_eq_some_iff.mp hc
    have q := List.all_eq_true.mp ((Array.all_eq_true_iff_forall_mem.mp hF) _ (Array.getElem_mem ha)) i (List.mem_range.mpr hi)
    simpa [Array.getElem?_eq_getElem hi] using q
  obtain ⟨i0, q0⟩ := is_v k0
  obtain rfl : w0 = (.int i0) := Option.some.inj q0
  obtain ⟨i1, q1⟩ := is_v k1
  obtain rfl : w1 = (.int i1) := Option.some.inj q1
  obtain ⟨xqd, hn_0⟩ := and_e hn
  obtain ⟨xfi, hn_1⟩ := and_e hn_0
  obtain ⟨xun, hn_2⟩ := and_e hn_1
  obtain ⟨xdl, hn_3⟩ := and_e hn_2
  obtain ⟨au, hn_4⟩ := and_e hn_3
  obtain ⟨wz, hn_5⟩ := and_e hn_4
  obtain ⟨af, hn_6⟩ := and_e hn_5
  obtain ⟨x0, hn_7⟩ := and_e hn_6
  obtain ⟨f0, hn_8⟩ := and_e hn_7
  obtain ⟨x3, hn_9⟩ := and_e hn_8
  obtain ⟨f3, hn_10⟩ := and_e hn_9
  obtain ⟨x1, hn_11⟩ := and_e hn_10
  obtain ⟨f1, hn_12⟩ := and_e hn_11
  obtain ⟨o1, hn_13⟩ := and_e hn_12
  obtain ⟨o0, hn_14⟩ := and_e hn_13
  obtain ⟨x4, hn_15⟩ := and_e hn_14
  obtain ⟨f4, hn_16⟩ := and_e hn_15
  obtain ⟨x6, hn_17⟩ := and_e hn_16
  obtain ⟨f6, hn_18⟩ := and_e hn_17
  obtain ⟨x5, hn_19⟩ := and_e hn_18
  obtain ⟨f5, hn_20⟩ := and_e hn_19
  obtain ⟨x2, hn_21⟩ := and_e hn_20
  have f2 := hn_21
  obtain ⟨qd, evq⟩ := exa_v xqd
  have Sq := Sta.start evq (Or.inr ⟨(own_g hw (i := 1) rfl), (own_g hw (i := 2) rfl)⟩)
  have Eq := Exa.start evq xqd
  obtain ⟨fi, evfi⟩ := exa_v xfi
  have Efi := Exa.start evfi xfi
  have Ffi_ := own_fieldR evq evfi
  obtain ⟨un, evun⟩ := exa_v xun
  have Eun := Exa.start evun xun
  have Fun_ := own_fieldR evq evun
  obtain ⟨dl, evd⟩ := exa_v xdl
  have Ed := Exa.start evd xdl
  have Fd := own_fieldI evd wz
  have Au := own_fieldR evun (own_eqR evd au)
  have Af := own_fieldR evfi (own_eqR evd af)
  obtain ⟨b0, ev0⟩ := exa_v x0
  have S0 := Sta.start ev0 (Or.inr ⟨(own_g hw (i := 74) rfl), (own_g hw (i := 75) rfl)⟩)
  have E0 := Exa.start ev0 x0
  have Ff0 := own_fieldI ev0 f0
  obtain ⟨b1, ev1⟩ := exa_v x1
  have S1 := Sta.start ev1 (Or.inr ⟨(own_g hw (i := 74) rfl), (own_g hw (i := 122) rfl)⟩)
  have E1 := Exa.start ev1 x1
  have Ff1 := own_fieldI ev1 f1
  obtain ⟨b2, ev2⟩ := exa_v x2
  have S2 := Sta.start ev2 (Or.inr ⟨(own_g hw (i := 74) rfl), (own_g hw (i := 130) rfl)⟩)
  have E2 := Exa.start ev2 x2
  have Ff2 := own_fieldI ev2 f2
  obtain ⟨b3, ev3⟩ := exa_v x3
  have S3 := Sta.start ev3 (Or.inr ⟨(own_g hw (i := 74) rfl), (own_g hw (i := 120) rfl)⟩)
  have E3 := Exa.start ev3 x3
  have Ff3 := own_fieldI ev3 f3
  obtain ⟨b4, ev4⟩ := exa_v x4
  have S4 := Sta.start ev4 (Or.inr ⟨(own_g hw (i := 74) rfl), (own_g hw (i := 124) rfl)⟩)
  have E4 := Exa.start ev4 x4
  have Ff4 := own_fieldI ev4 f4
  obtain ⟨b5, ev5⟩ := exa_v x5
  have S5 := Sta.start ev5 (Or.inr ⟨(own_g hw (i := 74) rfl), (own_g hw (i := 128) rfl)⟩)
  have E5 := Exa.start ev5 x5
  have Ff5 := own_fieldI ev5 f5
  obtain ⟨b6, ev6⟩ := exa_v x6
  have S6 := Sta.start ev6 (Or.inr ⟨(own_g hw (i := 74) rfl), (own_g hw (i := 126) rfl)⟩)
  have E6 := Exa.start ev6 x6
  have Ff6 := own_fieldI ev6 f6
  have O0 := own_fieldI ev0 o0
  have O1 := own_fieldI ev1 o1
  have ne : b1 ≠ b0 := O1.ne O0 (by decide)
  have y2 := Cond.before_iff.mp (hsets _ (List.mem_of_getElem? (i := 2) rfl))
  obtain ⟨em, evm⟩ := exa_v y2
  have Sm := Sta.start evm (Or.inl (hsets _ (List.mem_of_getElem? (i := 1) rfl)))
  have Em := Exa.start evm y2
  have Fm := own_fieldR evm (null_v (Cond.before_iff.mp (hsets _ (List.mem_of_getElem? (i := 3) rfl))))
  obtain ⟨n, o, h1, h2, h3, _, L, rfl, ⟨rfl, N, -⟩, hq⟩ := own_rmlaw l s _ hw tables_1 i0 i1 qd fi un dl em b0 b1 b2 b3 b4 b5 b6 s.heap s.heap.size (Nat.le_refl _) Sq Eq Ffi_ Fun_ Efi Eun Af Au Ed Fd Sm Em Fm S0 E0 Ff0 S1 E1 Ff1 S2 E2 Ff2 S3 E3 Ff3 S4 E4 Ff4 S5 E5 Ff5 S6 E6 Ff6 ne p e ha hc hk s m _ below hf ((Spec.applies_iff_loose hf).mp happ).1 ⟨rfl, State.Warmed39.refl s, rfl⟩ trivial
  refine ⟨n, _, h1, h2, h3, hpost _ _ _ _ _ _ ⟨Cond.after_iff.mpr rfl, Cond.after_iff.mpr (eq_i res_at (Term.int_eval (1)) rfl), trivial⟩ ⟨hq.1, hq.2.1, hq.2.2.1, (hq.2.2.2.sift fun y hy => Or.inr (N y hy)).mono (by decide) (by decide)⟩⟩
theorem main_1_1 : Claimed_1_1 := comes_1 fun _ _ _ _ _ _ h hF => ⟨h.1, hF⟩
theorem main_1_2 : Claimed_1_2 := comes_1 fun _ _ _ _ _ _ h hF => ⟨h.2.1, hF⟩
end Jvm.Pilot.@@N@@
namespace Jvm.Pilot.@@N@@
open Jvm Jvm.ClassFile Sem Op Lib Jvm.Free Jvm.Stand Jvm.Pilot.@@N@@.Jvm.D
/-! MADE BY PROGRAM (witnessworld.py) out of the Statement's table words and the real class files: 23 classes; the members and pool entries that the words name. The judged class is class 1, her method 1. -/
namespace start1
open Jvm.ClassFile
def u (s : String) : CpInfo := .utf8 (stringToUtf16 s)
/-- a pool by its gaps: so many unusable entries, then the entry; so many at the end -/
def gap : Nat → List CpInfo → List CpInfo
  | 0, r => r
  | n + 1, r => .unusable :: gap n r
def poolList (es : List (Nat × CpInfo)) (last : Nat) : List CpInfo := es.foldr (fun e r => gap e.1 (e.2 :: r)) (gap last [])
def pool (es : List (Nat × CpInfo)) (last : Nat) : Array CpInfo := ⟨poolList es last⟩
def fileOf (pool : Array CpInfo) (this : Nat) (attrs : Array Attribute := #[]) (ms : Array MethodInfo := #[]) (fl : Nat := 33) (sup : Nat := 0) (ifs : Array Nat := #[]) (fds : Array FieldInfo := #[]) : ClassFile where
  minorVersion := 0
  majorVersion := 65
  constantPool := pool
  accessFlags := fl
  thisClass := this
  superClass := sup
  interfaces := ifs
  fields := fds
  methods := ms
  attributes := attrs
def plain (name : String) (sup : Option ClassId) : Class where
  name := name
  kind := .ordinary
  loader := none
  accessFlags := 33
  super := sup
  interfaces := #[]
  cf := none
  fields := #[]
  methods := #[]
  instanceTypes := #[]
  staticTypes := #[]
  resolved := #[]
  callSites := []
  init := .initialized
  statics := none
  mirror := none

def pool0 : Array CpInfo := pool [(5, u "<init>"), (0, u "()V"), (1, .class_ 10), (1, u "java/lang/Object")] 113

def k0c0 : Code := { maxStack := 0, maxLocals := 1, code := object_method_1_code, exceptionTable := #[], attributes := #[] }
def k0m0 : Method := { name := "<init>", desc := "()V", sig := { parameters := [], returnType := none }, accessFlags := 1, code := some k0c0 }
/-- java/lang/Object -/
def k0 : Class := { plain "java/lang/Object" none with
  accessFlags := 33
  interfaces := #[]
  cf := some (fileOf pool0 8 #[] #[{ accessFlags := 1, nameIndex := 5, descriptorIndex := 6, attributes := #[] }] 33 0 #[] #[])
  fields := #[]
  methods := #[k0m0]
  instanceTypes := #[]
  staticTypes := #[]
  resolved := Array.replicate 124 none
  statics := none }

def pool1 : Array CpInfo := pool [(2, .class_ 4), (1, u "java/lang/Object"), (0, u "<init>"), (0, u "()V"), (0, .fieldref 8 9), (0, .class_ 10), (0, .nameAndType 11 12), (0, u "com/example/purgatory/purgatory/model/QueueRetentionPolicy"), (0, u "QUEUE_DEFAULT"), (0, u "Lcom/example/purgatory/purgatory/model/QueueRetentionPolicy;"), (0, .methodref 8 14), (0, .nameAndType 15 16), (0, u "finished"), (0, u "()Lcom/example/purgatory/purgatory/model/Retention;"), (0, .methodref 8 18), (0, .nameAndType 19 16), (0, u "unprocessed"), (0, .methodref 8 21), (0, .nameAndType 5 22), (0, u "(Lcom/example/purgatory/purgatory/model/Retention;Lcom/example/purgatory/purgatory/model/Retention;Ljava/lang/Long;Z)V"), (0, .integer 2147483647), (0, .methodref 25 26), (0, .class_ 27), (0, .nameAndType 28 29), (0, u "com/example/purgatory/purgatory/model/QueueRetentionPolicyRetentionOfPinLaw"), (0, u "status"), (0, u "(I)Lcom/example/purgatory/purgatory/model/QueueItemStatus;"), (0, .methodref 8 31), (0, .nameAndType 32 33), (0, u "retentionOf"), (0, u "(Lcom/example/purgatory/purgatory/model/QueueItemStatus;)Ljava/util/Optional;"), (0, .methodref 35 36), (0, .class_ 37), (0, .nameAndType 38 39), (0, u "java/util/Optional"), (0, u "isPresent"), (0, u "()Z"), (0, .methodref 35 41), (0, .nameAndType 42 43), (0, u "get"), (0, u "()Ljava/lang/Object;"), (0, .fieldref 45 46), (0, .class_ 47), (0, .nameAndType 48 49), (0, u "com/example/purgatory/purgatory/model/QueueItemStatus"), (0, u "NEW"), (0, u "Lcom/example/purgatory/purgatory/model/QueueItemStatus;"), (0, .fieldref 45 51), (0, .nameAndType 52 49), (0, u "IN_PROGRESS"), (0, .fieldref 45 54), (0, .nameAndType 55 49), (0, u "FAILED"), (0, .fieldref 45 57), (0, .nameAndType 58 49), (0, u "SUCCESSFUL"), (0, .fieldref 45 60), (0, .nameAndType 61 49), (0, u "ABANDONED"), (0, .fieldref 45 63), (0, .nameAndType 64 49), (0, u "RETRIED"), (0, .fieldref 45 66), (0, .nameAndType 67 49), (0, u "DELETED"), (2, u "law"), (0, u "(II)Z")] 5

def k1m0 : Method := { name := "<init>", desc := "()V", sig := { parameters := [], returnType := none }, accessFlags := 1, code := none }
def k1c1 : Code := { maxStack := 6, maxLocals := 12, code := code, exceptionTable := #[], attributes := #[] }
def k1m1 : Method := { name := "law", desc := "(II)Z", sig := { parameters := [.int, .int], returnType := some .boolean }, accessFlags := 9, code := some k1c1 }
def k1c2 : Code := { maxStack := 2, maxLocals := 1, code := method_3_code, exceptionTable := #[], attributes := #[] }
def k1m2 : Method := { name := "status", desc := "(I)Lcom/example/purgatory/purgatory/model/QueueItemStatus;", sig := { parameters := [.int], returnType := some (.object "com/example/purgatory/purgatory/model/QueueItemStatus") }, accessFlags := 10, code := some k1c2 }
/-- com/example/purgatory/purgatory/model/QueueRetentionPolicyRetentionOfPinLaw -/
def k1 : Class := { plain "com/example/purgatory/purgatory/model/QueueRetentionPolicyRetentionOfPinLaw" (some 0) with
  accessFlags := 49
  interfaces := #[]
  cf := some (fileOf pool1 25 #[] #[{ accessFlags := 1, nameIndex := 5, descriptorIndex := 6, attributes := #[] }, { accessFlags := 9, nameIndex := 70, descriptorIndex := 71, attributes := #[] }, { accessFlags := 10, nameIndex := 28, descriptorIndex := 29, attributes := #[] }] 49 2 #[] #[])
  fields := #[]
  methods := #[k1m0, k1m1, k1m2]
  instanceTypes := #[]
  staticTypes := #[]
  resolved := Array.replicate 77 none
  statics := none }

def pool2 : Array CpInfo := pool [(1, .class_ 2), (0, u "com/example/purgatory/purgatory/model/Policy"), (0, .class_ 4), (0, u "java/lang/Object")] 8

/-- com/example/purgatory/purgatory/model/Policy -/
def k2 : Class := { plain "com/example/purgatory/purgatory/model/Policy" (some 0) with
  accessFlags := 1537
  interfaces := #[]
  cf := some (fileOf pool2 1 #[] #[] 1537 3 #[] #[])
  fields := #[]
  methods := #[]
  instanceTypes := #[]
  staticTypes := #[]
  resolved := Array.replicate 13 none
  statics := none }

def pool3 : Array CpInfo := pool [(1, .methodref 2 3), (0, .class_ 4), (0, .nameAndType 5 6), (0, u "java/lang/Object"), (0, u "<init>"), (0, u "()V"), (0, .string 8), (0, u "finished"), (0, .methodref 10 11), (0, .class_ 12), (0, .nameAndType 13 14), (0, u "java/util/Objects"), (0, u "requireNonNull"), (0, u "(Ljava/lang/Object;Ljava/lang/String;)Ljava/lang/Object;"), (0, .class_ 16), (0, u "com/example/purgatory/purgatory/model/Retention"), (0, .fieldref 18 19), (0, .class_ 20), (0, .nameAndType 8 21), (0, u "com/example/purgatory/purgatory/model/QueueRetentionPolicy"), (0, u "Lcom/example/purgatory/purgatory/model/Retention;"), (0, .string 23), (0, u "unprocessed"), (0, .fieldref 18 25), (0, .nameAndType 23 21), (0, .methodref 15 27), (0, .nameAndType 28 29), (0, u "requireBucket"), (0, u "(Ljava/lang/Long;[Lcom/example/purgatory/purgatory/model/Retention;)Ljava/lang/Long;"), (0, .fieldref 18 31), (0, .nameAndType 32 33), (0, u "bucketId"), (0, u "Ljava/lang/Long;"), (0, .fieldref 18 35), (0, .nameAndType 36 37), (0, u "isDefault"), (0, u "Z"), (2, u "(Lcom/example/purgatory/purgatory/model/Retention;Lcom/example/purgatory/purgatory/model/Retention;Ljava/lang/Long;Z)V"), (0, .methodref 42 43), (0, .class_ 44), (0, .nameAndType 45 46), (0, u "java/util/Optional"), (0, u "empty"), (0, u "()Ljava/util/Optional;"), (0, .methodref 48 49), (0, .class_ 50), (0, .nameAndType 51 52), (0, u "com/example/purgatory/purgatory/model/QueueItemStatus"), (0, u "isFinal"), (0, u "()Z"), (0, .methodref 42 54), (0, .nameAndType 55 56), (0, u "of"), (0, u "(Ljava/lang/Object;)Ljava/util/Optional;"), (0, .fieldref 48 58), (0, .nameAndType 59 60), (0, u "NEW"), (0, u "Lcom/example/purgatory/purgatory/model/QueueItemStatus;"), (59, u "QUEUE_DEFAULT"), (0, u "Lcom/example/purgatory/purgatory/model/QueueRetentionPolicy;"), (5, u "IMPORTED_QUEUE"), (0, .class_ 129), (0, u "com/example/purgatory/purgatory/model/Policy"), (0, u "MIN_FINISHED_DAYS"), (0, u "I"), (2, u "MAX_FINISHED_DAYS"), (1, u "MIN_UNPROCESSED_DAYS"), (0, u "MAX_UNPROCESSED_DAYS"), (5, u "()Lcom/example/purgatory/purgatory/model/Retention;"), (0, u "retentionOf"), (0, u "(Lcom/example/purgatory/purgatory/model/QueueItemStatus;)Ljava/util/Optional;")] 10

def k3c0 : Code := { maxStack := 6, maxLocals := 5, code := prog_14_method_1_code, exceptionTable := #[], attributes := #[] }
def k3m0 : Method := { name := "<init>", desc := "(Lcom/example/purgatory/purgatory/model/Retention;Lcom/example/purgatory/purgatory/model/Retention;Ljava/lang/Long;Z)V", sig := { parameters := [(.object "com/example/purgatory/purgatory/model/Retention"), (.object "com/example/purgatory/purgatory/model/Retention"), (.object "java/lang/Long"), .boolean], returnType := none }, accessFlags := 1, code := some k3c0 }
def k3c1 : Code := { maxStack := 1, maxLocals := 1, code := prog_14_method_3_code, exceptionTable := #[], attributes := #[] }
def k3m1 : Method := { name := "finished", desc := "()Lcom/example/purgatory/purgatory/model/Retention;", sig := { parameters := [], returnType := some (.object "com/example/purgatory/purgatory/model/Retention") }, accessFlags := 1, code := some k3c1 }
def k3c2 : Code := { maxStack := 1, maxLocals := 1, code := prog_14_method_4_code, exceptionTable := #[], attributes := #[] }
def k3m2 : Method := { name := "unprocessed", desc := "()Lcom/example/purgatory/purgatory/model/Retention;", sig := { parameters := [], returnType := some (.object "com/example/purgatory/purgatory/model/Retention") }, accessFlags := 1, code := some k3c2 }
def k3c3 : Code := { maxStack := 2, maxLocals := 3, code := prog_14_method_5_code, exceptionTable := #[], attributes := #[] }
def k3m3 : Method := { name := "retentionOf", desc := "(Lcom/example/purgatory/purgatory/model/QueueItemStatus;)Ljava/util/Optional;", sig := { parameters := [(.object "com/example/purgatory/purgatory/model/QueueItemStatus")], returnType := some (.object "java/util/Optional") }, accessFlags := 1, code := some k3c3 }
/-- com/example/purgatory/purgatory/model/QueueRetentionPolicy -/
def k3 : Class := { plain "com/example/purgatory/purgatory/model/QueueRetentionPolicy" (some 0) with
  accessFlags := 33
  interfaces := #[2]
  cf := some (fileOf pool3 18 #[] #[{ accessFlags := 1, nameIndex := 5, descriptorIndex := 40, attributes := #[] }, { accessFlags := 1, nameIndex := 8, descriptorIndex := 143, attributes := #[] }, { accessFlags := 1, nameIndex := 23, descriptorIndex := 143, attributes := #[] }, { accessFlags := 1, nameIndex := 144, descriptorIndex := 145, attributes := #[] }] 33 2 #[128] #[{ accessFlags := 25, nameIndex := 130, descriptorIndex := 131, attributes := #[] }, { accessFlags := 25, nameIndex := 134, descriptorIndex := 131, attributes := #[] }, { accessFlags := 25, nameIndex := 136, descriptorIndex := 131, attributes := #[] }, { accessFlags := 25, nameIndex := 137, descriptorIndex := 131, attributes := #[] }, { accessFlags := 25, nameIndex := 120, descriptorIndex := 121, attributes := #[] }, { accessFlags := 25, nameIndex := 127, descriptorIndex := 121, attributes := #[] }, { accessFlags := 18, nameIndex := 8, descriptorIndex := 21, attributes := #[] }, { accessFlags := 18, nameIndex := 23, descriptorIndex := 21, attributes := #[] }, { accessFlags := 18, nameIndex := 32, descriptorIndex := 33, attributes := #[] }, { accessFlags := 18, nameIndex := 36, descriptorIndex := 37, attributes := #[] }])
  fields := #[{ name := "MIN_FINISHED_DAYS", type := .int, accessFlags := 25, slot := 0, constantValue := 0 }, { name := "MAX_FINISHED_DAYS", type := .int, accessFlags := 25, slot := 1, constantValue := 0 }, { name := "MIN_UNPROCESSED_DAYS", type := .int, accessFlags := 25, slot := 2, constantValue := 0 }, { name := "MAX_UNPROCESSED_DAYS", type := .int, accessFlags := 25, slot := 3, constantValue := 0 }, { name := "QUEUE_DEFAULT", type := (.object "com/example/purgatory/purgatory/model/QueueRetentionPolicy"), accessFlags := 25, slot := 4, constantValue := 0 }, { name := "IMPORTED_QUEUE", type := (.object "com/example/purgatory/purgatory/model/QueueRetentionPolicy"), accessFlags := 25, slot := 5, constantValue := 0 }, { name := "finished", type := (.object "com/example/purgatory/purgatory/model/Retention"), accessFlags := 18, slot := 0, constantValue := 0 }, { name := "unprocessed", type := (.object "com/example/purgatory/purgatory/model/Retention"), accessFlags := 18, slot := 1, constantValue := 0 }, { name := "bucketId", type := (.object "java/lang/Long"), accessFlags := 18, slot := 2, constantValue := 0 }, { name := "isDefault", type := .boolean, accessFlags := 18, slot := 3, constantValue := 0 }]
  methods := #[k3m0, k3m1, k3m2, k3m3]
  instanceTypes := #[(.object "com/example/purgatory/purgatory/model/Retention"), (.object "com/example/purgatory/purgatory/model/Retention"), (.object "java/lang/Long"), .boolean]
  staticTypes := #[.int, .int, .int, .int, (.object "com/example/purgatory/purgatory/model/QueueRetentionPolicy"), (.object "com/example/purgatory/purgatory/model/QueueRetentionPolicy")]
  resolved := Array.replicate 156 none
  statics := some 0 }

def pool4 : Array CpInfo := pool [(1, .class_ 2), (0, u "java/io/Serializable"), (0, .class_ 4), (0, u "java/lang/Object")] 2

/-- java/io/Serializable -/
def k4 : Class := { plain "java/io/Serializable" (some 0) with
  accessFlags := 1537
  interfaces := #[]
  cf := some (fileOf pool4 1 #[] #[] 1537 3 #[] #[])
  fields := #[]
  methods := #[]
  instanceTypes := #[]
  staticTypes := #[]
  resolved := Array.replicate 7 none
  statics := none }

def pool5 : Array CpInfo := pool [(1, .class_ 2), (0, u "java/lang/Comparable"), (0, .class_ 4), (0, u "java/lang/Object")] 7

/-- java/lang/Comparable -/
def k5 : Class := { plain "java/lang/Comparable" (some 0) with
  accessFlags := 1537
  interfaces := #[]
  cf := some (fileOf pool5 1 #[] #[] 1537 3 #[] #[])
  fields := #[]
  methods := #[]
  instanceTypes := #[]
  staticTypes := #[]
  resolved := Array.replicate 12 none
  statics := none }

def pool6 : Array CpInfo := pool [(2, .class_ 4), (1, u "java/lang/CharSequence"), (42, .class_ 48), (0, u "java/lang/CharSequence$1CodePointIterator"), (10, .class_ 60), (0, u "java/lang/CharSequence$1CharIterator"), (5, .class_ 67), (0, u "java/lang/Object")] 63

/-- java/lang/CharSequence -/
def k6 : Class := { plain "java/lang/CharSequence" (some 0) with
  accessFlags := 1537
  interfaces := #[]
  cf := some (fileOf pool6 2 #[.nestMembers #[47, 59]] #[] 1537 66 #[] #[])
  fields := #[]
  methods := #[]
  instanceTypes := #[]
  staticTypes := #[]
  resolved := Array.replicate 131 none
  statics := none }

def pool7 : Array CpInfo := pool [(1, .class_ 2), (0, u "java/lang/constant/Constable"), (0, .class_ 4), (0, u "java/lang/Object")] 6

/-- java/lang/constant/Constable -/
def k7 : Class := { plain "java/lang/constant/Constable" (some 0) with
  accessFlags := 1537
  interfaces := #[]
  cf := some (fileOf pool7 1 #[] #[] 1537 3 #[] #[])
  fields := #[]
  methods := #[]
  instanceTypes := #[]
  staticTypes := #[]
  resolved := Array.replicate 11 none
  statics := none }

def pool8 : Array CpInfo := pool [(1, .class_ 2), (0, u "java/lang/constant/ConstantDesc"), (0, .class_ 4), (0, u "java/lang/Object")] 32

/-- java/lang/constant/ConstantDesc -/
def k8 : Class := { plain "java/lang/constant/ConstantDesc" (some 0) with
  accessFlags := 1537
  interfaces := #[]
  cf := some (fileOf pool8 1 #[] #[] 1537 3 #[] #[])
  fields := #[]
  methods := #[]
  instanceTypes := #[]
  staticTypes := #[]
  resolved := Array.replicate 37 none
  statics := none }

def pool9 : Array CpInfo := pool [(2, .class_ 4), (1, u "java/lang/Object"), (0, u "<init>"), (0, u "()V"), (3, .class_ 12), (1, u "java/lang/String"), (0, u "value"), (0, u "[B"), (2, u "coder"), (0, u "B"), (2, u "hash"), (0, u "I"), (2, u "hashIsZero"), (0, u "Z"), (13, u "COMPACT_STRINGS"), (534, .class_ 576), (0, u "java/lang/CharSequence"), (22, u "CASE_INSENSITIVE_ORDER"), (0, u "Ljava/util/Comparator;"), (500, u "serialPersistentFields"), (0, u "[Ljava/io/ObjectStreamField;"), (0, .class_ 1104), (0, u "java/lang/String$CaseInsensitiveComparator"), (1, .class_ 1107), (0, u "java/io/Serializable"), (0, .class_ 1109), (0, u "java/lang/Comparable"), (0, .class_ 1111), (0, u "java/lang/constant/Constable"), (0, .class_ 1113), (0, u "java/lang/constant/ConstantDesc"), (2, u "serialVersionUID"), (0, u "J"), (3, u "REPL"), (0, u "C"), (2, u "LATIN1"), (1, u "UTF16")] 323

def k9m0 : Method := { name := "<init>", desc := "()V", sig := { parameters := [], returnType := none }, accessFlags := 1, code := none }
/-- java/lang/String -/
def k9 : Class := { plain "java/lang/String" (some 0) with
  accessFlags := 49
  interfaces := #[4, 5, 6, 7, 8]
  cf := some (fileOf pool9 10 #[.nestMembers #[1103]] #[{ accessFlags := 1, nameIndex := 5, descriptorIndex := 6, attributes := #[] }] 49 2 #[1106, 1108, 575, 1110, 1112] #[{ accessFlags := 18, nameIndex := 13, descriptorIndex := 14, attributes := #[] }, { accessFlags := 18, nameIndex := 17, descriptorIndex := 18, attributes := #[] }, { accessFlags := 2, nameIndex := 21, descriptorIndex := 22, attributes := #[] }, { accessFlags := 2, nameIndex := 25, descriptorIndex := 26, attributes := #[] }, { accessFlags := 26, nameIndex := 1116, descriptorIndex := 1117, attributes := #[] }, { accessFlags := 24, nameIndex := 40, descriptorIndex := 26, attributes := #[] }, { accessFlags := 26, nameIndex := 1101, descriptorIndex := 1102, attributes := #[] }, { accessFlags := 26, nameIndex := 1121, descriptorIndex := 1122, attributes := #[] }, { accessFlags := 25, nameIndex := 599, descriptorIndex := 600, attributes := #[] }, { accessFlags := 24, nameIndex := 1125, descriptorIndex := 18, attributes := #[] }, { accessFlags := 24, nameIndex := 1127, descriptorIndex := 18, attributes := #[] }])
  fields := #[{ name := "value", type := (.array .byte), accessFlags := 18, slot := 0, constantValue := 0 }, { name := "coder", type := .byte, accessFlags := 18, slot := 1, constantValue := 0 }, { name := "hash", type := .int, accessFlags := 2, slot := 2, constantValue := 0 }, { name := "hashIsZero", type := .boolean, accessFlags := 2, slot := 3, constantValue := 0 }, { name := "serialVersionUID", type := .long, accessFlags := 26, slot := 0, constantValue := 0 }, { name := "COMPACT_STRINGS", type := .boolean, accessFlags := 24, slot := 1, constantValue := 0 }, { name := "serialPersistentFields", type := (.array (.object "java/io/ObjectStreamField")), accessFlags := 26, slot := 2, constantValue := 0 }, { name := "REPL", type := .char, accessFlags := 26, slot := 3, constantValue := 0 }, { name := "CASE_INSENSITIVE_ORDER", type := (.object "java/util/Comparator"), accessFlags := 25, slot := 4, constantValue := 0 }, { name := "LATIN1", type := .byte, accessFlags := 24, slot := 5, constantValue := 0 }, { name := "UTF16", type := .byte, accessFlags := 24, slot := 6, constantValue := 0 }]
  methods := #[k9m0]
  instanceTypes := #[(.array .byte), .byte, .int, .boolean]
  staticTypes := #[.long, .boolean, (.array (.object "java/io/ObjectStreamField")), .char, (.object "java/util/Comparator"), .byte, .byte]
  resolved := Array.replicate 1451 none
  statics := none }

def pool10 : Array CpInfo := pool [(2, .class_ 4), (1, u "java/lang/Object"), (0, u "<init>"), (0, u "()V"), (35, .class_ 44), (1, u "java/util/Objects"), (0, u "requireNonNull"), (0, u "(Ljava/lang/Object;)Ljava/lang/Object;"), (47, u "(Ljava/lang/Object;Ljava/lang/String;)Ljava/lang/Object;")] 89

def k10m0 : Method := { name := "<init>", desc := "()V", sig := { parameters := [], returnType := none }, accessFlags := 2, code := none }
def k10c1 : Code := { maxStack := 2, maxLocals := 1, code := jdk_31_method_10_code, exceptionTable := #[], attributes := #[] }
def k10m1 : Method := { name := "requireNonNull", desc := "(Ljava/lang/Object;)Ljava/lang/Object;", sig := { parameters := [(.object "java/lang/Object")], returnType := some (.object "java/lang/Object") }, accessFlags := 9, code := some k10c1 }
def k10c2 : Code := { maxStack := 3, maxLocals := 2, code := jdk_31_method_11_code, exceptionTable := #[], attributes := #[] }
def k10m2 : Method := { name := "requireNonNull", desc := "(Ljava/lang/Object;Ljava/lang/String;)Ljava/lang/Object;", sig := { parameters := [(.object "java/lang/Object"), (.object "java/lang/String")], returnType := some (.object "java/lang/Object") }, accessFlags := 9, code := some k10c2 }
/-- java/util/Objects -/
def k10 : Class := { plain "java/util/Objects" (some 0) with
  accessFlags := 49
  interfaces := #[]
  cf := some (fileOf pool10 42 #[] #[{ accessFlags := 2, nameIndex := 5, descriptorIndex := 6, attributes := #[] }, { accessFlags := 9, nameIndex := 45, descriptorIndex := 46, attributes := #[] }, { accessFlags := 9, nameIndex := 45, descriptorIndex := 94, attributes := #[] }] 49 2 #[] #[])
  fields := #[]
  methods := #[k10m0, k10m1, k10m2]
  instanceTypes := #[]
  staticTypes := #[]
  resolved := Array.replicate 184 none
  statics := none }

def pool11 : Array CpInfo := pool [(2, .class_ 4), (1, u "java/lang/Object"), (3, u "action"), (6, .class_ 16), (0, u "com/example/purgatory/purgatory/model/RetentionAction"), (0, .fieldref 18 19), (0, .class_ 20), (0, .nameAndType 8 21), (0, u "com/example/purgatory/purgatory/model/Retention"), (0, u "Lcom/example/purgatory/purgatory/model/RetentionAction;"), (3, u "()Z"), (40, u "days"), (0, u "Ljava/lang/Integer;"), (0, .methodref 18 69), (0, .nameAndType 8 70), (0, u "()Lcom/example/purgatory/purgatory/model/RetentionAction;"), (0, .methodref 15 72), (0, .nameAndType 73 25), (0, u "writesArchive"), (0, .methodref 18 75), (0, .nameAndType 76 77), (0, u "anyWritesArchive"), (0, u "([Lcom/example/purgatory/purgatory/model/Retention;)Z"), (19, u "requireBucket"), (0, u "(Ljava/lang/Long;[Lcom/example/purgatory/purgatory/model/Retention;)Ljava/lang/Long;")] 5

def k11c0 : Code := { maxStack := 1, maxLocals := 1, code := prog_19_method_2_code, exceptionTable := #[], attributes := #[] }
def k11m0 : Method := { name := "action", desc := "()Lcom/example/purgatory/purgatory/model/RetentionAction;", sig := { parameters := [], returnType := some (.object "com/example/purgatory/purgatory/model/RetentionAction") }, accessFlags := 1, code := some k11c0 }
def k11c1 : Code := { maxStack := 2, maxLocals := 5, code := prog_19_method_3_code, exceptionTable := #[], attributes := #[] }
def k11m1 : Method := { name := "anyWritesArchive", desc := "([Lcom/example/purgatory/purgatory/model/Retention;)Z", sig := { parameters := [(.array (.object "com/example/purgatory/purgatory/model/Retention"))], returnType := some .boolean }, accessFlags := 137, code := some k11c1 }
def k11c2 : Code := { maxStack := 4, maxLocals := 3, code := prog_19_method_4_code, exceptionTable := #[], attributes := #[] }
def k11m2 : Method := { name := "requireBucket", desc := "(Ljava/lang/Long;[Lcom/example/purgatory/purgatory/model/Retention;)Ljava/lang/Long;", sig := { parameters := [(.object "java/lang/Long"), (.array (.object "com/example/purgatory/purgatory/model/Retention"))], returnType := some (.object "java/lang/Long") }, accessFlags := 136, code := some k11c2 }
/-- com/example/purgatory/purgatory/model/Retention -/
def k11 : Class := { plain "com/example/purgatory/purgatory/model/Retention" (some 0) with
  accessFlags := 33
  interfaces := #[]
  cf := some (fileOf pool11 18 #[] #[{ accessFlags := 1, nameIndex := 8, descriptorIndex := 70, attributes := #[] }, { accessFlags := 137, nameIndex := 76, descriptorIndex := 77, attributes := #[] }, { accessFlags := 136, nameIndex := 97, descriptorIndex := 98, attributes := #[] }] 33 2 #[] #[{ accessFlags := 18, nameIndex := 8, descriptorIndex := 21, attributes := #[] }, { accessFlags := 18, nameIndex := 66, descriptorIndex := 67, attributes := #[] }])
  fields := #[{ name := "action", type := (.object "com/example/purgatory/purgatory/model/RetentionAction"), accessFlags := 18, slot := 0, constantValue := 0 }, { name := "days", type := (.object "java/lang/Integer"), accessFlags := 18, slot := 1, constantValue := 0 }]
  methods := #[k11m0, k11m1, k11m2]
  instanceTypes := #[(.object "com/example/purgatory/purgatory/model/RetentionAction"), (.object "java/lang/Integer")]
  staticTypes := #[]
  resolved := Array.replicate 104 none
  statics := none }

def pool12 : Array CpInfo := pool [(2, .class_ 4), (1, u "java/lang/Enum"), (0, u "name"), (0, u "Ljava/lang/String;"), (2, u "ordinal"), (0, u "I"), (1, .class_ 14), (1, u "java/lang/Object"), (4, u "hash"), (86, .class_ 108), (1, u "java/lang/Enum$EnumDesc"), (2, .class_ 112), (0, u "java/lang/constant/Constable"), (0, .class_ 114), (0, u "java/lang/Comparable"), (0, .class_ 116), (0, u "java/io/Serializable")] 87

/-- java/lang/Enum -/
def k12 : Class := { plain "java/lang/Enum" (some 0) with
  accessFlags := 1057
  interfaces := #[7, 5, 4]
  cf := some (fileOf pool12 2 #[.nestMembers #[106]] #[] 1057 12 #[111, 113, 115] #[{ accessFlags := 18, nameIndex := 5, descriptorIndex := 6, attributes := #[] }, { accessFlags := 18, nameIndex := 9, descriptorIndex := 10, attributes := #[] }, { accessFlags := 2, nameIndex := 19, descriptorIndex := 10, attributes := #[] }])
  fields := #[{ name := "name", type := (.object "java/lang/String"), accessFlags := 18, slot := 0, constantValue := 0 }, { name := "ordinal", type := .int, accessFlags := 18, slot := 1, constantValue := 0 }, { name := "hash", type := .int, accessFlags := 2, slot := 2, constantValue := 0 }]
  methods := #[]
  instanceTypes := #[(.object "java/lang/String"), .int, .int]
  staticTypes := #[]
  resolved := Array.replicate 204 none
  statics := none }

def pool13 : Array CpInfo := pool [(2, .class_ 4), (1, u "com/example/purgatory/purgatory/model/Named"), (18, .class_ 24), (0, u "java/lang/Object")] 11

/-- com/example/purgatory/purgatory/model/Named -/
def k13 : Class := { plain "com/example/purgatory/purgatory/model/Named" (some 0) with
  accessFlags := 1537
  interfaces := #[]
  cf := some (fileOf pool13 2 #[] #[] 1537 23 #[] #[])
  fields := #[]
  methods := #[]
  instanceTypes := #[]
  staticTypes := #[]
  resolved := Array.replicate 36 none
  statics := none }

def pool14 : Array CpInfo := pool [(1, .class_ 2), (0, u "com/example/purgatory/purgatory/model/RetentionAction"), (2, u "DELETE"), (0, u "Lcom/example/purgatory/purgatory/model/RetentionAction;"), (2, u "ARCHIVE"), (2, u "KEEP"), (2, u "$VALUES"), (0, u "[Lcom/example/purgatory/purgatory/model/RetentionAction;"), (6, .class_ 25), (1, u "java/lang/Enum"), (8, u "text"), (0, u "Ljava/lang/String;"), (2, u "hasRetentionDays"), (0, u "Z"), (0, .fieldref 1 41), (0, .nameAndType 42 39), (0, u "writesArchive"), (5, .class_ 50), (1, u "com/example/purgatory/purgatory/model/Named"), (24, u "()Z")] 8

def k14c0 : Code := { maxStack := 1, maxLocals := 1, code := prog_20_method_6_code, exceptionTable := #[], attributes := #[] }
def k14m0 : Method := { name := "writesArchive", desc := "()Z", sig := { parameters := [], returnType := some .boolean }, accessFlags := 1, code := some k14c0 }
/-- com/example/purgatory/purgatory/model/RetentionAction -/
def k14 : Class := { plain "com/example/purgatory/purgatory/model/RetentionAction" (some 12) with
  accessFlags := 16433
  interfaces := #[13]
  cf := some (fileOf pool14 1 #[] #[{ accessFlags := 1, nameIndex := 42, descriptorIndex := 75, attributes := #[] }] 16433 23 #[48] #[{ accessFlags := 16409, nameIndex := 5, descriptorIndex := 6, attributes := #[] }, { accessFlags := 16409, nameIndex := 9, descriptorIndex := 6, attributes := #[] }, { accessFlags := 16409, nameIndex := 12, descriptorIndex := 6, attributes := #[] }, { accessFlags := 18, nameIndex := 34, descriptorIndex := 35, attributes := #[] }, { accessFlags := 18, nameIndex := 38, descriptorIndex := 39, attributes := #[] }, { accessFlags := 18, nameIndex := 42, descriptorIndex := 39, attributes := #[] }, { accessFlags := 4122, nameIndex := 15, descriptorIndex := 16, attributes := #[] }])
  fields := #[{ name := "DELETE", type := (.object "com/example/purgatory/purgatory/model/RetentionAction"), accessFlags := 16409, slot := 0, constantValue := 0 }, { name := "ARCHIVE", type := (.object "com/example/purgatory/purgatory/model/RetentionAction"), accessFlags := 16409, slot := 1, constantValue := 0 }, { name := "KEEP", type := (.object "com/example/purgatory/purgatory/model/RetentionAction"), accessFlags := 16409, slot := 2, constantValue := 0 }, { name := "text", type := (.object "java/lang/String"), accessFlags := 18, slot := 3, constantValue := 0 }, { name := "hasRetentionDays", type := .boolean, accessFlags := 18, slot := 4, constantValue := 0 }, { name := "writesArchive", type := .boolean, accessFlags := 18, slot := 5, constantValue := 0 }, { name := "$VALUES", type := (.array (.object "com/example/purgatory/purgatory/model/RetentionAction")), accessFlags := 4122, slot := 3, constantValue := 0 }]
  methods := #[k14m0]
  instanceTypes := #[(.object "java/lang/String"), .int, .int, (.object "java/lang/String"), .boolean, .boolean]
  staticTypes := #[(.object "com/example/purgatory/purgatory/model/RetentionAction"), (.object "com/example/purgatory/purgatory/model/RetentionAction"), (.object "com/example/purgatory/purgatory/model/RetentionAction"), (.array (.object "com/example/purgatory/purgatory/model/RetentionAction"))]
  resolved := Array.replicate 84 none
  statics := some 1 }

def pool15 : Array CpInfo := pool [(1, .class_ 2), (0, u "com/example/purgatory/purgatory/model/QueueItemStatus"), (2, u "NEW"), (0, u "Lcom/example/purgatory/purgatory/model/QueueItemStatus;"), (2, u "IN_PROGRESS"), (2, u "FAILED"), (2, u "SUCCESSFUL"), (2, u "ABANDONED"), (2, u "RETRIED"), (2, u "DELETED"), (2, u "$VALUES"), (0, u "[Lcom/example/purgatory/purgatory/model/QueueItemStatus;"), (6, .class_ 37), (1, u "java/lang/Enum"), (8, u "text"), (0, u "Ljava/lang/String;"), (0, .fieldref 1 49), (0, .nameAndType 50 51), (0, u "isFinal"), (0, u "Z"), (5, .class_ 59), (1, u "com/example/purgatory/purgatory/model/Named"), (36, u "()Z")] 8

def k15c0 : Code := { maxStack := 1, maxLocals := 1, code := prog_13_method_5_code, exceptionTable := #[], attributes := #[] }
def k15m0 : Method := { name := "isFinal", desc := "()Z", sig := { parameters := [], returnType := some .boolean }, accessFlags := 1, code := some k15c0 }
/-- com/example/purgatory/purgatory/model/QueueItemStatus -/
def k15 : Class := { plain "com/example/purgatory/purgatory/model/QueueItemStatus" (some 12) with
  accessFlags := 16433
  interfaces := #[13]
  cf := some (fileOf pool15 1 #[] #[{ accessFlags := 1, nameIndex := 50, descriptorIndex := 96, attributes := #[] }] 16433 35 #[57] #[{ accessFlags := 16409, nameIndex := 5, descriptorIndex := 6, attributes := #[] }, { accessFlags := 16409, nameIndex := 9, descriptorIndex := 6, attributes := #[] }, { accessFlags := 16409, nameIndex := 12, descriptorIndex := 6, attributes := #[] }, { accessFlags := 16409, nameIndex := 15, descriptorIndex := 6, attributes := #[] }, { accessFlags := 16409, nameIndex := 18, descriptorIndex := 6, attributes := #[] }, { accessFlags := 16409, nameIndex := 21, descriptorIndex := 6, attributes := #[] }, { accessFlags := 16409, nameIndex := 24, descriptorIndex := 6, attributes := #[] }, { accessFlags := 18, nameIndex := 46, descriptorIndex := 47, attributes := #[] }, { accessFlags := 18, nameIndex := 50, descriptorIndex := 51, attributes := #[] }, { accessFlags := 4122, nameIndex := 27, descriptorIndex := 28, attributes := #[] }])
  fields := #[{ name := "NEW", type := (.object "com/example/purgatory/purgatory/model/QueueItemStatus"), accessFlags := 16409, slot := 0, constantValue := 0 }, { name := "IN_PROGRESS", type := (.object "com/example/purgatory/purgatory/model/QueueItemStatus"), accessFlags := 16409, slot := 1, constantValue := 0 }, { name := "FAILED", type := (.object "com/example/purgatory/purgatory/model/QueueItemStatus"), accessFlags := 16409, slot := 2, constantValue := 0 }, { name := "SUCCESSFUL", type := (.object "com/example/purgatory/purgatory/model/QueueItemStatus"), accessFlags := 16409, slot := 3, constantValue := 0 }, { name := "ABANDONED", type := (.object "com/example/purgatory/purgatory/model/QueueItemStatus"), accessFlags := 16409, slot := 4, constantValue := 0 }, { name := "RETRIED", type := (.object "com/example/purgatory/purgatory/model/QueueItemStatus"), accessFlags := 16409, slot := 5, constantValue := 0 }, { name := "DELETED", type := (.object "com/example/purgatory/purgatory/model/QueueItemStatus"), accessFlags := 16409, slot := 6, constantValue := 0 }, { name := "text", type := (.object "java/lang/String"), accessFlags := 18, slot := 3, constantValue := 0 }, { name := "isFinal", type := .boolean, accessFlags := 18, slot := 4, constantValue := 0 }, { name := "$VALUES", type := (.array (.object "com/example/purgatory/purgatory/model/QueueItemStatus")), accessFlags := 4122, slot := 7, constantValue := 0 }]
  methods := #[k15m0]
  instanceTypes := #[(.object "java/lang/String"), .int, .int, (.object "java/lang/String"), .boolean]
  staticTypes := #[(.object "com/example/purgatory/purgatory/model/QueueItemStatus"), (.object "com/example/purgatory/purgatory/model/QueueItemStatus"), (.object "com/example/purgatory/purgatory/model/QueueItemStatus"), (.object "com/example/purgatory/purgatory/model/QueueItemStatus"), (.object "com/example/purgatory/purgatory/model/QueueItemStatus"), (.object "com/example/purgatory/purgatory/model/QueueItemStatus"), (.object "com/example/purgatory/purgatory/model/QueueItemStatus"), (.array (.object "com/example/purgatory/purgatory/model/QueueItemStatus"))]
  resolved := Array.replicate 105 none
  statics := some 2 }

def pool16 : Array CpInfo := pool [(1, .fieldref 2 3), (0, .class_ 4), (0, .nameAndType 5 6), (0, u "java/util/Optional"), (0, u "EMPTY"), (0, u "Ljava/util/Optional;"), (0, .methodref 8 9), (0, .class_ 10), (0, .nameAndType 11 12), (0, u "java/lang/Object"), (0, u "<init>"), (0, u "()V"), (0, .fieldref 2 14), (0, .nameAndType 15 16), (0, u "value"), (0, u "Ljava/lang/Object;"), (0, .methodref 18 19), (0, .class_ 20), (0, .nameAndType 21 22), (0, u "java/util/Objects"), (0, u "requireNonNull"), (0, u "(Ljava/lang/Object;)Ljava/lang/Object;"), (0, .methodref 2 24), (0, .nameAndType 11 25), (0, u "(Ljava/lang/Object;)V"), (20, u "()Z"), (8, u "empty"), (0, u "()Ljava/util/Optional;"), (8, u "(Ljava/lang/Object;)Ljava/util/Optional;"), (2, u "isPresent"), (4, u "get"), (0, u "()Ljava/lang/Object;"), (7, u "of")] 104

def k16c0 : Code := { maxStack := 1, maxLocals := 1, code := jdk_32_method_1_code, exceptionTable := #[], attributes := #[] }
def k16m0 : Method := { name := "empty", desc := "()Ljava/util/Optional;", sig := { parameters := [], returnType := some (.object "java/util/Optional") }, accessFlags := 9, code := some k16c0 }
def k16c1 : Code := { maxStack := 2, maxLocals := 2, code := jdk_32_method_2_code, exceptionTable := #[], attributes := #[] }
def k16m1 : Method := { name := "<init>", desc := "(Ljava/lang/Object;)V", sig := { parameters := [(.object "java/lang/Object")], returnType := none }, accessFlags := 2, code := some k16c1 }
def k16c2 : Code := { maxStack := 3, maxLocals := 1, code := jdk_32_method_3_code, exceptionTable := #[], attributes := #[] }
def k16m2 : Method := { name := "of", desc := "(Ljava/lang/Object;)Ljava/util/Optional;", sig := { parameters := [(.object "java/lang/Object")], returnType := some (.object "java/util/Optional") }, accessFlags := 9, code := some k16c2 }
def k16c3 : Code := { maxStack := 3, maxLocals := 1, code := jdk_32_method_5_code, exceptionTable := #[], attributes := #[] }
def k16m3 : Method := { name := "get", desc := "()Ljava/lang/Object;", sig := { parameters := [], returnType := some (.object "java/lang/Object") }, accessFlags := 1, code := some k16c3 }
def k16c4 : Code := { maxStack := 1, maxLocals := 1, code := jdk_32_method_6_code, exceptionTable := #[], attributes := #[] }
def k16m4 : Method := { name := "isPresent", desc := "()Z", sig := { parameters := [], returnType := some .boolean }, accessFlags := 1, code := some k16c4 }
/-- java/util/Optional -/
def k16 : Class := { plain "java/util/Optional" (some 0) with
  accessFlags := 49
  interfaces := #[]
  cf := some (fileOf pool16 2 #[] #[{ accessFlags := 9, nameIndex := 55, descriptorIndex := 56, attributes := #[] }, { accessFlags := 2, nameIndex := 11, descriptorIndex := 25, attributes := #[] }, { accessFlags := 9, nameIndex := 82, descriptorIndex := 65, attributes := #[] }, { accessFlags := 1, nameIndex := 73, descriptorIndex := 74, attributes := #[] }, { accessFlags := 1, nameIndex := 68, descriptorIndex := 46, attributes := #[] }] 49 8 #[] #[{ accessFlags := 26, nameIndex := 5, descriptorIndex := 6, attributes := #[] }, { accessFlags := 18, nameIndex := 15, descriptorIndex := 16, attributes := #[] }])
  fields := #[{ name := "EMPTY", type := (.object "java/util/Optional"), accessFlags := 26, slot := 0, constantValue := 0 }, { name := "value", type := (.object "java/lang/Object"), accessFlags := 18, slot := 0, constantValue := 0 }]
  methods := #[k16m0, k16m1, k16m2, k16m3, k16m4]
  instanceTypes := #[(.object "java/lang/Object")]
  staticTypes := #[(.object "java/util/Optional")]
  resolved := Array.replicate 187 none
  statics := some 3 }

def pool17 : Array CpInfo := pool [(1, u "java/lang/Cloneable"), (0, .class_ 1), (0, u "java/lang/Object"), (0, .class_ 3)] 3

/-- java/lang/Cloneable -/
def k17 : Class := { plain "java/lang/Cloneable" (some 0) with
  accessFlags := 1537
  interfaces := #[]
  cf := some (fileOf pool17 2 #[] #[] 1537 4 #[] #[])
  fields := #[]
  methods := #[]
  instanceTypes := #[]
  staticTypes := #[]
  resolved := Array.replicate 8 none
  statics := none }

/-- the primitive byte -/
def k18 : Class := { plain "byte" none with kind := .primitive 'B', accessFlags := 0x411 }
/-- [B -/
def k19 : Class := { plain "[B" (some 0) with kind := .array 18 .byte, interfaces := #[17, 4], accessFlags := 1041 }

/-- the primitive int -/
def k20 : Class := { plain "int" none with kind := .primitive 'I', accessFlags := 0x411 }
/-- [I -/
def k21 : Class := { plain "[I" (some 0) with kind := .array 20 .int, interfaces := #[17, 4], accessFlags := 1041 }

/-- [Lcom/example/purgatory/purgatory/model/Retention; -/
def k22 : Class := { plain "[Lcom/example/purgatory/purgatory/model/Retention;" (some 0) with kind := .array 11 (.object "com/example/purgatory/purgatory/model/Retention"), interfaces := #[17, 4], accessFlags := 1041 }

def heap : Heap := #[{ cls := 3, slots := #[.int 0, .int 0, .int 0, .int 0, .ref 7, .null], vm := .statics 3 },
  { cls := 14, slots := #[.ref 4, .null, .null, .null], vm := .statics 14 },
  { cls := 15, slots := #[.ref 8, .ref 9, .ref 10, .ref 11, .ref 12, .ref 13, .ref 14, .null], vm := .statics 15 },
  { cls := 16, slots := #[.ref 15], vm := .statics 16 },
  { cls := 14, slots := #[.null, .int 0, .int 0, .null, .int 0, .int 0], vm := .none },
  { cls := 11, slots := #[.ref 4, .null], vm := .none },
  { cls := 11, slots := #[.ref 4, .null], vm := .none },
  { cls := 3, slots := #[.ref 5, .ref 6, .null, .int 0], vm := .none },
  { cls := 15, slots := #[.null, .int 0, .int 0, .null, .int 0], vm := .none },
  { cls := 15, slots := #[.null, .int 1, .int 0, .null, .int 0], vm := .none },
  { cls := 15, slots := #[.null, .int 2, .int 0, .null, .int 1], vm := .none },
  { cls := 15, slots := #[.null, .int 3, .int 0, .null, .int 1], vm := .none },
  { cls := 15, slots := #[.null, .int 4, .int 0, .null, .int 1], vm := .none },
  { cls := 15, slots := #[.null, .int 5, .int 0, .null, .int 1], vm := .none },
  { cls := 15, slots := #[.null, .int 6, .int 0, .null, .int 1], vm := .none },
  { cls := 16, slots := #[.null], vm := .none }]
def classes : Array Class := #[k0, k1, k2, k3, k4, k5, k6, k7, k8, k9, k10, k11, k12, k13, k14, k15, k16, k17, k18, k19, k20, k21, k22]
def interned : List (Array UInt16 × Addr) := []
def slotsUsed : Nat := 69
def theMethod : MethodId := ⟨1, 1⟩
def args0 : Array Value := #[.int 5, .int 3]
def aboutOver (below : List Frame) : State where
  vm := { classes := classes, interned := interned.toArray }
  heap := heap
  slotsUsed := slotsUsed
  threads := #[{ frames := .invoking theMethod args0 :: below }]
def below0 : List Frame := [.native { method := ⟨0, 0⟩, args := #[] }]
def about1 : State := aboutOver below0
def p0 : Program := .bare "" "" ""
def e0 : Env := launch0.env 0 0 0
theorem w_frames : about1.frames = Frame.invoking theMethod args0 :: below0 := rfl
set_option maxRecDepth 65536 in
theorem w_args : argsFit about1.vm theMethod args0 = true := by decide +kernel
set_option maxRecDepth 65536 in
theorem w_heap : heapFits about1 = true := by decide +kernel
set_option maxRecDepth 65536 in
theorem w_runnable : about1.curStatus? = some .runnable := by decide +kernel
set_option maxRecDepth 65536 in
theorem w_alone : about1.alone = true := by decide +kernel
set_option maxRecDepth 65536 in
theorem w_named : about1.methodNamed? x = some theMethod := by decide +kernel
set_option maxRecDepth 65536 in
theorem w_hears : about1.hears theMethod below0 = true := by decide +kernel
set_option maxRecDepth 65536 in
theorem w_ripe : about1.ripe theMethod args0 below0 = true := by decide +kernel
theorem w_running : about1.status = .running := rfl
set_option maxRecDepth 65536 in
theorem w_room : about1.hasRoom e0.platform room_1 = true :=
  launch0.hasRoom_least _ room_1 (by decide +kernel) (by decide +kernel) (by decide +kernel) (by decide +kernel) (by decide +kernel) (by decide +kernel)
theorem allAtoms_all (ts : List Jvm.Cond) (a : Array Jvm.Value) (st : Jvm.State) : (allAtoms ts).before a st = ts.all (fun c => c.before a st) := by
  induction ts with
  | nil => rfl
  | cons c t ih =>
    show (Jvm.Cond.and c (allAtoms t)).before a st = _
    rw [Jvm.Cond.before_and, ih, List.all_cons]
def words1 : List Jvm.Cond := Jvm.Cond.code x code maxLocals ret :: tables_1
/-- a 'code' word, met by the world's own term for the bytes: nothing is compared byte by byte -/
theorem code_word {y : MethodName} {bytes : ByteArray} {mx : Nat} {rt : Option FieldType} {a : Array Value} {s : State} {m : MethodId} {meth : Method} {c : Code} (h1 : s.methodNamed? y = some m) (h2 : s.vm.method? m = some meth) (h3 : meth.code = some c) (h4 : c.code = bytes)
    (h5 : (c.maxLocals == mx && c.exceptionTable.isEmpty && decide (c.maxStack ≤ mostOperands) && decide (meth.sig.returnType = rt) && !meth.locks && decide (parseMethodDescriptor y.desc = some meth.sig)) = true) : (Jvm.Cond.code y bytes mx rt).before a s = true := by
  simp only [Bool.and_eq_true, beq_iff_eq, Bool.not_eq_true', decide_eq_true_eq] at h5
  obtain ⟨⟨⟨⟨⟨g1, g2⟩, g3⟩, g4⟩, g5⟩, g6⟩ := h5
  simp [Cond.before, Cond.holds, Cond.value, h1, h2, h3, h4, g1, g2, g3, g4, g5, g6]
def isCode : Jvm.Cond → Bool
  | .code _ _ _ _ => true
  | _ => false
theorem all_split {L : List Jvm.Cond} {P : Jvm.Cond → Bool} (h1 : L.all (fun c => isCode c || P c) = true) (h2 : ∀ c ∈ L.filter isCode, P c = true) : L.all P = true := by
  refine List.all_eq_true.mpr fun c hc => ?_
  have h := List.all_eq_true.mp h1 c hc
  rcases Bool.eq_false_or_eq_true (isCode c) with hi | hi
  · exact h2 c (List.mem_filter.mpr ⟨hc, hi⟩)
  · simpa [hi] using h
set_option maxRecDepth 65536 in
theorem w_c0 : (Jvm.Cond.code x code maxLocals ret).before args0 about1 = true := code_word (m := ⟨1, 1⟩) (meth := k1m1) (c := k1c1) (by decide +kernel) rfl rfl rfl (by decide +kernel)
set_option maxRecDepth 65536 in
theorem w_c1 : (Jvm.Cond.code ({ cls := "com/example/purgatory/purgatory/model/QueueRetentionPolicy", name := "finished", desc := "()Lcom/example/purgatory/purgatory/model/Retention;" } : Jvm.MethodName) prog_14_method_3_code (1 : Nat) (Option.some (Jvm.ClassFile.FieldType.object "com/example/purgatory/purgatory/model/Retention"))).before args0 about1 = true := code_word (m := ⟨3, 1⟩) (meth := k3m1) (c := k3c1) (by decide +kernel) rfl rfl rfl (by decide +kernel)
set_option maxRecDepth 65536 in
theorem w_c2 : (Jvm.Cond.code ({ cls := "com/example/purgatory/purgatory/model/QueueRetentionPolicy", name := "unprocessed", desc := "()Lcom/example/purgatory/purgatory/model/Retention;" } : Jvm.MethodName) prog_14_method_4_code (1 : Nat) (Option.some (Jvm.ClassFile.FieldType.object "com/example/purgatory/purgatory/model/Retention"))).before args0 about1 = true := code_word (m := ⟨3, 2⟩) (meth := k3m2) (c := k3c2) (by decide +kernel) rfl rfl rfl (by decide +kernel)
set_option maxRecDepth 65536 in
theorem w_c3 : (Jvm.Cond.code ({ cls := "com/example/purgatory/purgatory/model/QueueRetentionPolicy", name := "<init>", desc := "(Lcom/example/purgatory/purgatory/model/Retention;Lcom/example/purgatory/purgatory/model/Retention;Ljava/lang/Long;Z)V" } : Jvm.MethodName) prog_14_method_1_code (5 : Nat) (Option.none : Option Jvm.ClassFile.FieldType)).before args0 about1 = true := code_word (m := ⟨3, 0⟩) (meth := k3m0) (c := k3c0) (by decide +kernel) rfl rfl rfl (by decide +kernel)
set_option maxRecDepth 65536 in
theorem w_c4 : (Jvm.Cond.code ({ cls := "java/lang/Object", name := "<init>", desc := "()V" } : Jvm.MethodName) object_method_1_code (1 : Nat) (Option.none : Option Jvm.ClassFile.FieldType)).before args0 about1 = true := code_word (m := ⟨0, 0⟩) (meth := k0m0) (c := k0c0) (by decide +kernel) rfl rfl rfl (by decide +kernel)
set_option maxRecDepth 65536 in
theorem w_c5 : (Jvm.Cond.code ({ cls := "java/util/Objects", name := "requireNonNull", desc := "(Ljava/lang/Object;Ljava/lang/String;)Ljava/lang/Object;" } : Jvm.MethodName) jdk_31_method_11_code (2 : Nat) (Option.some (Jvm.ClassFile.FieldType.object "java/lang/Object"))).before args0 about1 = true := code_word (m := ⟨10, 2⟩) (meth := k10m2) (c := k10c2) (by decide +kernel) rfl rfl rfl (by decide +kernel)
set_option maxRecDepth 65536 in
theorem w_c6 : (Jvm.Cond.code ({ cls := "com/example/purgatory/purgatory/model/Retention", name := "requireBucket", desc := "(Ljava/lang/Long;[Lcom/example/purgatory/purgatory/model/Retention;)Ljava/lang/Long;" } : Jvm.MethodName) prog_19_method_4_code (3 : Nat) (Option.some (Jvm.ClassFile.FieldType.object "java/lang/Long"))).before args0 about1 = true := code_word (m := ⟨11, 2⟩) (meth := k11m2) (c := k11c2) (by decide +kernel) rfl rfl rfl (by decide +kernel)
set_option maxRecDepth 65536 in
theorem w_c7 : (Jvm.Cond.code ({ cls := "com/example/purgatory/purgatory/model/Retention", name := "anyWritesArchive", desc := "([Lcom/example/purgatory/purgatory/model/Retention;)Z" } : Jvm.MethodName) prog_19_method_3_code (5 : Nat) (Option.some Jvm.ClassFile.FieldType.boolean)).before args0 about1 = true := code_word (m := ⟨11, 1⟩) (meth := k11m1) (c := k11c1) (by decide +kernel) rfl rfl rfl (by decide +kernel)
set_option maxRecDepth 65536 in
theorem w_c8 : (Jvm.Cond.code ({ cls := "com/example/purgatory/purgatory/model/Retention", name := "action", desc := "()Lcom/example/purgatory/purgatory/model/RetentionAction;" } : Jvm.MethodName) prog_19_method_2_code (1 : Nat) (Option.some (Jvm.ClassFile.FieldType.object "com/example/purgatory/purgatory/model/RetentionAction"))).before args0 about1 = true := code_word (m := ⟨11, 0⟩) (meth := k11m0) (c := k11c0) (by decide +kernel) rfl rfl rfl (by decide +kernel)
set_option maxRecDepth 65536 in
theorem w_c9 : (Jvm.Cond.code ({ cls := "com/example/purgatory/purgatory/model/RetentionAction", name := "writesArchive", desc := "()Z" } : Jvm.MethodName) prog_20_method_6_code (1 : Nat) (Option.some Jvm.ClassFile.FieldType.boolean)).before args0 about1 = true := code_word (m := ⟨14, 0⟩) (meth := k14m0) (c := k14c0) (by decide +kernel) rfl rfl rfl (by decide +kernel)
set_option maxRecDepth 65536 in
theorem w_c10 : (Jvm.Cond.code ({ cls := "com/example/purgatory/purgatory/model/QueueRetentionPolicyRetentionOfPinLaw", name := "status", desc := "(I)Lcom/example/purgatory/purgatory/model/QueueItemStatus;" } : Jvm.MethodName) method_3_code (1 : Nat) (Option.some (Jvm.ClassFile.FieldType.object "com/example/purgatory/purgatory/model/QueueItemStatus"))).before args0 about1 = true := code_word (m := ⟨1, 2⟩) (meth := k1m2) (c := k1c2) (by decide +kernel) rfl rfl rfl (by decide +kernel)
set_option maxRecDepth 65536 in
theorem w_c11 : (Jvm.Cond.code ({ cls := "com/example/purgatory/purgatory/model/QueueRetentionPolicy", name := "retentionOf", desc := "(Lcom/example/purgatory/purgatory/model/QueueItemStatus;)Ljava/util/Optional;" } : Jvm.MethodName) prog_14_method_5_code (3 : Nat) (Option.some (Jvm.ClassFile.FieldType.object "java/util/Optional"))).before args0 about1 = true := code_word (m := ⟨3, 3⟩) (meth := k3m3) (c := k3c3) (by decide +kernel) rfl rfl rfl (by decide +kernel)
set_option maxRecDepth 65536 in
theorem w_c12 : (Jvm.Cond.code ({ cls := "java/util/Optional", name := "empty", desc := "()Ljava/util/Optional;" } : Jvm.MethodName) jdk_32_method_1_code (1 : Nat) (Option.some (Jvm.ClassFile.FieldType.object "java/util/Optional"))).before args0 about1 = true := code_word (m := ⟨16, 0⟩) (meth := k16m0) (c := k16c0) (by decide +kernel) rfl rfl rfl (by decide +kernel)
set_option maxRecDepth 65536 in
theorem w_c13 : (Jvm.Cond.code ({ cls := "com/example/purgatory/purgatory/model/QueueItemStatus", name := "isFinal", desc := "()Z" } : Jvm.MethodName) prog_13_method_5_code (1 : Nat) (Option.some Jvm.ClassFile.FieldType.boolean)).before args0 about1 = true := code_word (m := ⟨15, 0⟩) (meth := k15m0) (c := k15c0) (by decide +kernel) rfl rfl rfl (by decide +kernel)
set_option maxRecDepth 65536 in
theorem w_c14 : (Jvm.Cond.code ({ cls := "java/util/Optional", name := "of", desc := "(Ljava/lang/Object;)Ljava/util/Optional;" } : Jvm.MethodName) jdk_32_method_3_code (1 : Nat) (Option.some (Jvm.ClassFile.FieldType.object "java/util/Optional"))).before args0 about1 = true := code_word (m := ⟨16, 2⟩) (meth := k16m2) (c := k16c2) (by decide +kernel) rfl rfl rfl (by decide +kernel)
set_option maxRecDepth 65536 in
theorem w_c15 : (Jvm.Cond.code ({ cls := "java/util/Objects", name := "requireNonNull", desc := "(Ljava/lang/Object;)Ljava/lang/Object;" } : Jvm.MethodName) jdk_31_method_10_code (1 : Nat) (Option.some (Jvm.ClassFile.FieldType.object "java/lang/Object"))).before args0 about1 = true := code_word (m := ⟨10, 1⟩) (meth := k10m1) (c := k10c1) (by decide +kernel) rfl rfl rfl (by decide +kernel)
set_option maxRecDepth 65536 in
theorem w_c16 : (Jvm.Cond.code ({ cls := "java/util/Optional", name := "<init>", desc := "(Ljava/lang/Object;)V" } : Jvm.MethodName) jdk_32_method_2_code (2 : Nat) (Option.none : Option Jvm.ClassFile.FieldType)).before args0 about1 = true := code_word (m := ⟨16, 1⟩) (meth := k16m1) (c := k16c1) (by decide +kernel) rfl rfl rfl (by decide +kernel)
set_option maxRecDepth 65536 in
theorem w_c17 : (Jvm.Cond.code ({ cls := "java/util/Optional", name := "isPresent", desc := "()Z" } : Jvm.MethodName) jdk_32_method_6_code (1 : Nat) (Option.some Jvm.ClassFile.FieldType.boolean)).before args0 about1 = true := code_word (m := ⟨16, 4⟩) (meth := k16m4) (c := k16c4) (by decide +kernel) rfl rfl rfl (by decide +kernel)
set_option maxRecDepth 65536 in
theorem w_c18 : (Jvm.Cond.code ({ cls := "java/util/Optional", name := "get", desc := "()Ljava/lang/Object;" } : Jvm.MethodName) jdk_32_method_5_code (1 : Nat) (Option.some (Jvm.ClassFile.FieldType.object "java/lang/Object"))).before args0 about1 = true := code_word (m := ⟨16, 3⟩) (meth := k16m3) (c := k16c3) (by decide +kernel) rfl rfl rfl (by decide +kernel)
def codes1 : List Jvm.Cond := [Jvm.Cond.code x code maxLocals ret, Jvm.Cond.code ({ cls := "com/example/purgatory/purgatory/model/QueueRetentionPolicy", name := "finished", desc := "()Lcom/example/purgatory/purgatory/model/Retention;" } : Jvm.MethodName) prog_14_method_3_code (1 : Nat) (Option.some (Jvm.ClassFile.FieldType.object "com/example/purgatory/purgatory/model/Retention")), Jvm.Cond.code ({ cls := "com/example/purgatory/purgatory/model/QueueRetentionPolicy", name := "unprocessed", desc := "()Lcom/example/purgatory/purgatory/model/Retention;" } : Jvm.MethodName) prog_14_method_4_code (1 : Nat) (Option.some (Jvm.ClassFile.FieldType.object "com/example/purgatory/purgatory/model/Retention")), Jvm.Cond.code ({ cls := "com/example/purgatory/purgatory/model/QueueRetentionPolicy", name := "<init>", desc := "(Lcom/example/purgatory/purgatory/model/Retention;Lcom/example/purgatory/purgatory/model/Retention;Ljava/lang/Long;Z)V" } : Jvm.MethodName) prog_14_method_1_code (5 : Nat) (Option.none : Option Jvm.ClassFile.FieldType), Jvm.Cond.code ({ cls := "java/lang/Object", name := "<init>", desc := "()V" } : Jvm.MethodName) object_method_1_code (1 : Nat) (Option.none : Option Jvm.ClassFile.FieldType), Jvm.Cond.code ({ cls := "java/util/Objects", name := "requireNonNull", desc := "(Ljava/lang/Object;Ljava/lang/String;)Ljava/lang/Object;" } : Jvm.MethodName) jdk_31_method_11_code (2 : Nat) (Option.some (Jvm.ClassFile.FieldType.object "java/lang/Object")), Jvm.Cond.code ({ cls := "com/example/purgatory/purgatory/model/Retention", name := "requireBucket", desc := "(Ljava/lang/Long;[Lcom/example/purgatory/purgatory/model/Retention;)Ljava/lang/Long;" } : Jvm.MethodName) prog_19_method_4_code (3 : Nat) (Option.some (Jvm.ClassFile.FieldType.object "java/lang/Long")), Jvm.Cond.code ({ cls := "com/example/purgatory/purgatory/model/Retention", name := "anyWritesArchive", desc := "([Lcom/example/purgatory/purgatory/model/Retention;)Z" } : Jvm.MethodName) prog_19_method_3_code (5 : Nat) (Option.some Jvm.ClassFile.FieldType.boolean), Jvm.Cond.code ({ cls := "com/example/purgatory/purgatory/model/Retention", name := "action", desc := "()Lcom/example/purgatory/purgatory/model/RetentionAction;" } : Jvm.MethodName) prog_19_method_2_code (1 : Nat) (Option.some (Jvm.ClassFile.FieldType.object "com/example/purgatory/purgatory/model/RetentionAction")), Jvm.Cond.code ({ cls := "com/example/purgatory/purgatory/model/RetentionAction", name := "writesArchive", desc := "()Z" } : Jvm.MethodName) prog_20_method_6_code (1 : Nat) (Option.some Jvm.ClassFile.FieldType.boolean), Jvm.Cond.code ({ cls := "com/example/purgatory/purgatory/model/QueueRetentionPolicyRetentionOfPinLaw", name := "status", desc := "(I)Lcom/example/purgatory/purgatory/model/QueueItemStatus;" } : Jvm.MethodName) method_3_code (1 : Nat) (Option.some (Jvm.ClassFile.FieldType.object "com/example/purgatory/purgatory/model/QueueItemStatus")), Jvm.Cond.code ({ cls := "com/example/purgatory/purgatory/model/QueueRetentionPolicy", name := "retentionOf", desc := "(Lcom/example/purgatory/purgatory/model/QueueItemStatus;)Ljava/util/Optional;" } : Jvm.MethodName) prog_14_method_5_code (3 : Nat) (Option.some (Jvm.ClassFile.FieldType.object "java/util/Optional")), Jvm.Cond.code ({ cls := "java/util/Optional", name := "empty", desc := "()Ljava/util/Optional;" } : Jvm.MethodName) jdk_32_method_1_code (1 : Nat) (Option.some (Jvm.ClassFile.FieldType.object "java/util/Optional")), Jvm.Cond.code ({ cls := "com/example/purgatory/purgatory/model/QueueItemStatus", name := "isFinal", desc := "()Z" } : Jvm.MethodName) prog_13_method_5_code (1 : Nat) (Option.some Jvm.ClassFile.FieldType.boolean), Jvm.Cond.code ({ cls := "java/util/Optional", name := "of", desc := "(Ljava/lang/Object;)Ljava/util/Optional;" } : Jvm.MethodName) jdk_32_method_3_code (1 : Nat) (Option.some (Jvm.ClassFile.FieldType.object "java/util/Optional")), Jvm.Cond.code ({ cls := "java/util/Objects", name := "requireNonNull", desc := "(Ljava/lang/Object;)Ljava/lang/Object;" } : Jvm.MethodName) jdk_31_method_10_code (1 : Nat) (Option.some (Jvm.ClassFile.FieldType.object "java/lang/Object")), Jvm.Cond.code ({ cls := "java/util/Optional", name := "<init>", desc := "(Ljava/lang/Object;)V" } : Jvm.MethodName) jdk_32_method_2_code (2 : Nat) (Option.none : Option Jvm.ClassFile.FieldType), Jvm.Cond.code ({ cls := "java/util/Optional", name := "isPresent", desc := "()Z" } : Jvm.MethodName) jdk_32_method_6_code (1 : Nat) (Option.some Jvm.ClassFile.FieldType.boolean), Jvm.Cond.code ({ cls := "java/util/Optional", name := "get", desc := "()Ljava/lang/Object;" } : Jvm.MethodName) jdk_32_method_5_code (1 : Nat) (Option.some (Jvm.ClassFile.FieldType.object "java/lang/Object"))]
set_option maxRecDepth 65536 in
theorem codes_eq : words1.filter isCode = codes1 := rfl
theorem w_codes : ∀ c ∈ words1.filter isCode, c.before args0 about1 = true := by
  rw [codes_eq]
  intro c hc
  simp only [codes1, List.mem_cons, List.not_mem_nil, or_false] at hc
  rcases hc with rfl | rfl | rfl | rfl | rfl | rfl | rfl | rfl | rfl | rfl | rfl | rfl | rfl | rfl | rfl | rfl | rfl | rfl | rfl
  · exact w_c0
  · exact w_c1
  · exact w_c2
  · exact w_c3
  · exact w_c4
  · exact w_c5
  · exact w_c6
  · exact w_c7
  · exact w_c8
  · exact w_c9
  · exact w_c10
  · exact w_c11
  · exact w_c12
  · exact w_c13
  · exact w_c14
  · exact w_c15
  · exact w_c16
  · exact w_c17
  · exact w_c18
set_option maxRecDepth 65536 in
theorem w_t1 : (words1.take 24).all (fun c => isCode c || c.before args0 about1) = true := by decide +kernel
set_option maxRecDepth 65536 in
theorem w_t2 : ((words1.drop 24).take 24).all (fun c => isCode c || c.before args0 about1) = true := by decide +kernel
set_option maxRecDepth 65536 in
theorem w_t3 : (((words1.drop 24).drop 24).take 24).all (fun c => isCode c || c.before args0 about1) = true := by decide +kernel
set_option maxRecDepth 65536 in
theorem w_t4 : ((((words1.drop 24).drop 24).drop 24).take 24).all (fun c => isCode c || c.before args0 about1) = true := by decide +kernel
set_option maxRecDepth 65536 in
theorem w_t5 : (((((words1.drop 24).drop 24).drop 24).drop 24).take 24).all (fun c => isCode c || c.before args0 about1) = true := by decide +kernel
set_option maxRecDepth 65536 in
theorem w_t6 : (((((words1.drop 24).drop 24).drop 24).drop 24).drop 24).all (fun c => isCode c || c.before args0 about1) = true := by decide +kernel
theorem w_tables : (allAtoms (Jvm.Cond.code x code maxLocals ret :: tables_1)).before args0 about1 = true := by
  rw [allAtoms_all]
  show words1.all (fun c => c.before args0 about1) = true
  refine all_split ?_ w_codes
  rw [← List.take_append_drop 24 words1, List.all_append, w_t1, ← List.take_append_drop 24 (words1.drop 24), List.all_append, w_t2, ← List.take_append_drop 24 ((words1.drop 24).drop 24), List.all_append, w_t3, ← List.take_append_drop 24 (((words1.drop 24).drop 24).drop 24), List.all_append, w_t4, ← List.take_append_drop 24 ((((words1.drop 24).drop 24).drop 24).drop 24), List.all_append, w_t5, w_t6]
  rfl
set_option maxRecDepth 65536 in
theorem w_rest : rest_1_c.before args0 about1 = true := by decide +kernel
set_option maxRecDepth 65536 in
theorem w_case : (Jvm.Cond.and given_1 narrow_1).before args0 about1 = true := by decide +kernel
theorem w_applies : (headSpec (Jvm.Cond.code x code maxLocals ret :: tables_1) room_1).applies x e0.platform about1 = true :=
  (Spec.applies_iff w_frames).mpr ⟨w_running, w_runnable, w_alone, w_named, w_hears, w_ripe, w_room, w_tables⟩
theorem atStart : AtStart classFile x code maxLocals ret World_1 tables_1 room_1 Calls_1 rest_1 Pre_1 launch0 p0 e0 about1 theMethod args0 below0 :=
  ⟨lists_1, trivial, launch0.admits_env _ _ _, launch0.least_env, fairChoices_fair.cas, fairChoices_fair.clock, w_frames, w_args, w_heap, w_applies, trivial, w_rest, w_case⟩
end start1
theorem witness_1 : WitnessClaimed_1 := ⟨start1.p0, start1.e0, start1.about1, start1.theMethod, start1.args0, start1.below0, start1.atStart⟩
end Jvm.Pilot.@@N@@
