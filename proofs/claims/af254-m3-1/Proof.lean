import JvmDerived
import JvmDerived.Pilot.@@N@@Statement
import JvmDerived.Pilot.@@N@@Code
set_option linter.unusedVariables false
set_option linter.unusedSimpArgs false
namespace Jvm.Pilot.@@N@@
open Jvm Jvm.ClassFile Sem Op Lib Jvm.Free Jvm.Stand Jvm.LawKit Jvm.RoadKit Bundle Jvm.Pilot.@@N@@.Jvm.D
theorem own_g {Z : State} {a0 : Array Value} (hw : ∀ d ∈ tables_1, d.before a0 Z = true) {i : Nat} {d : Jvm.Cond} (h : tables_1[i]? = some d) : d.before a0 Z = true := hw _ (List.mem_of_getElem? h)
/-- the walk from the frame g in the state T comes to an end of which K holds -/
def own_E (p : Program) (e : Env) (below : List Frame) (K : Outcome → State → Prop) (T : State) (g : JFrame) : Prop := ∃ s₂ o, Steps p.tables e below (T.setTop g) s₂ ∧ s₂.status = .running ∧ Ended s₂ below o ∧ K o s₂
def own_K (s : State) (Q : Option Value → Heap → List Loc → Prop) (kc ks : Nat) (o : Outcome) (U : State) : Prop := ∃ v L, o = .returned v ∧ Q v U.heap L ∧ FrameEnd s o U L kc ks
section OwnKit
variable {p : Program} {l : Launch} {e : Env} {R : Room} {s : State} {m : MethodId} {args : Array Value} {below : List Frame} {meth : Method} {c : Code} {T T' : State} {locs : List Loc} {cells slots : Nat} {K : Outcome → State → Prop} {Z : State} {h h' : Heap}
theorem own_S {g : JFrame} (g' : JFrame) (st : ∀ t, Steps p.tables e below (T'.setTop g') t → Steps p.tables e below (T.setTop g) t) (k : own_E p e below K T' g') : own_E p e below K T g := by
  obtain ⟨s₂, o, h1, h2⟩ := k
  exact ⟨s₂, o, st _ h1, h2⟩
theorem own_s {g : JFrame} {t : State} (g' : JFrame) (st : ∀ t, Steps p.tables e below (T'.setTop g') t → Steps p.tables e below (T.setTop g) t) (k : Steps p.tables e below (T'.setTop g') t) : Steps p.tables e below (T.setTop g) t := st t k
theorem own_ret {Q : Option Value → Heap → List Loc → Prop} {kc ks : Nat} (X : Stand p l e R s m args below meth c T locs cells slots) (hx : p.tables.exec = Jvm.exec) (hlk : meth.locks = false) {pc : Nat} {Ls : Array Slot} {w : Value} {t : FieldType} {i : Instr} {rest : List Value} (hret : meth.sig.returnType = some t) (hn : narrow t w = w)
    (hi : (i = .ireturn ∧ (t = .int ∨ t = .boolean ∨ t = .byte ∨ t = .char ∨ t = .short) ∧ ∃ z, w = .int z) ∨ (i = .lreturn ∧ t = .long ∧ ∃ z, w = .long z) ∨ (i = .dreturn ∧ t = .double ∧ ∃ z, w = .double z) ∨ (i = .freturn ∧ t = .float ∧ ∃ z, w = .float z) ∨ (i = .areturn ∧ t.isReference = true ∧ w.isRef = true))
    (hd : decode c.code pc = .ok (i, 1)) (hQ : Q (some w) T.heap locs) (h1 : cells ≤ kc) (h2 : slots ≤ ks) : own_E p e below (own_K s Q kc ks) T (mkF m pc Ls (w :: rest)) := by
  obtain ⟨fs, hr, hrun, hended, hW, hsame⟩ := X.leave (v := some w) (fun h => by rw [hret] at h; cases h) hlk
  exact ⟨_, _, retOut X hx hret hn hi hd hr, hrun, hended, _, _, rfl, hQ, ⟨_, rfl⟩, hW, hsame.mono h1 h2⟩
theorem own_retN {Q : Option Value → Heap → List Loc → Prop} {kc ks : Nat} (X : Stand p l e R s m args below meth c T locs cells slots) (hx : p.tables.exec = Jvm.exec) (hlk : meth.locks = false) {pc : Nat} {Ls : Array Slot} {z : Int32} {t : FieldType} {rest : List Value} (hret : meth.sig.returnType = some t) (ht : t = .boolean ∨ t = .byte ∨ t = .char ∨ t = .short)
    (hd : decode c.code pc = .ok (.ireturn, 1)) (hQ : Q (some (.int (nar t z))) T.heap locs) (h1 : cells ≤ kc) (h2 : slots ≤ ks) : own_E p e below (own_K s Q kc ks) T (mkF m pc Ls (.int z :: rest)) := by
  obtain ⟨fs, hr, hrun, hended, hW, hsame⟩ := X.leave (v := some (.int (nar t z))) (fun h => by rw [hret] at h; cases h) hlk
  exact ⟨_, _, retN X hx hret ht hd hr, hrun, hended, _, _, rfl, hQ, ⟨_, rfl⟩, hW, hsame.mono h1 h2⟩
theorem own_ret0 {Q : Option Value → Heap → List Loc → Prop} {kc ks : Nat} (X : Stand p l e R s m args below meth c T locs cells slots) (hx : p.tables.exec = Jvm.exec) (hlk : meth.locks = false) {pc : Nat} {Ls : Array Slot} (hret : meth.sig.returnType = none)
    (hd : decode c.code pc = .ok (.return_, 1)) (hQ : Q none T.heap locs) (h1 : cells ≤ kc) (h2 : slots ≤ ks) : own_E p e below (own_K s Q kc ks) T (mkF m pc Ls []) := by
  obtain ⟨fs, hr, hrun, hended, hW, hsame⟩ := X.leave (v := none) (fun _ => rfl) hlk
  exact ⟨_, _, X.returnOut hx hret hd hr, hrun, hended, _, _, rfl, hQ, ⟨_, rfl⟩, hW, hsame.mono h1 h2⟩
theorem own_weak (X : Stand p l e R s m args below meth c T locs cells slots) {locs' : List Loc} {kc ks : Nat} (hl : ∀ y ∈ locs, y ∈ locs' ∨ s.heap.size ≤ y.base) (h1 : cells ≤ kc) (h2 : slots ≤ ks) : Stand p l e R s m args below meth c T locs' kc ks :=
  { X with same := (X.same.sift hl).mono h1 h2 }
theorem Sta_keep {C n d : String} {w : Value} {ws : List Addr} {n0 : Nat} (F : Sta Z h C n d w) (K : Keep h h' ws) (hn : ∀ a ∈ ws, ∀ cell : Cell, h[a]? = some cell → cell.vm.isStatics = false) : Sta Z h' C n d w := by
  obtain ⟨cf, i, k, f, st, cell, h1, h2, h3, h4, h5, h6, h7⟩ := F
  exact ⟨cf, i, k, f, st, cell, h1, h2, h3, h4, K.2.1 st cell h5 (fun q => by have := hn st q cell h5; rw [h6] at this; cases this), h6, h7⟩
theorem Ins_keep {a : Addr} {C : String} {b : Bool} {ws : List Addr} (F : Ins Z h a C b) (K : Keep h h' ws) : Ins Z h' a C b := by
  obtain ⟨cell, cT, h1, h2, h3⟩ := F
  obtain ⟨c', q1, q2, q3, -⟩ := K.2.2 a cell h1
  exact ⟨c', cT, q1, h2, by rw [q2, q3]; exact h3⟩
end OwnKit
/-- an array whose places hold vs -/
def own_Ar (Z : State) (h : Heap) (a : Addr) (k : ClassId) (ty : FieldType) (vs : List Value) : Prop := ∃ c : Cell, Arr Z h a c ty ∧ c.cls = k ∧ c.slots = vs.toArray
section OwnArr
variable {p : Program} {l : Launch} {e : Env} {R : Room} {s : State} {m : MethodId} {args : Array Value} {below : List Frame} {meth : Method} {c : Code} {T : State} {locs : List Loc} {cells slots : Nat} {Z : State} {h h' : Heap} {a b : Addr} {k : ClassId} {ty : FieldType} {vs : List Value} {v : Value}
theorem own_Ar.lt (F : own_Ar Z h a k ty vs) : a < h.size := by obtain ⟨c, A, -⟩ := F; exact A.lt
theorem own_Ar.ext (F : own_Ar Z h a k ty vs) (E : Ext h h') : own_Ar Z h' a k ty vs := by obtain ⟨c, A, r⟩ := F; exact ⟨c, A.ext E, r⟩
theorem own_Ar.other {sl : Nat} (F : own_Ar Z h b k ty vs) (W : Wr h h' a sl v) (q : b ≠ a) : own_Ar Z h' b k ty vs := by obtain ⟨c, A, r⟩ := F; exact ⟨c, A.other W q, r⟩
theorem own_Ar.keep {ws : List Addr} (F : own_Ar Z h a k ty vs) (K : Keep h h' ws) (q : a ∉ ws) : own_Ar Z h' a k ty vs := by obtain ⟨c, A, r⟩ := F; exact ⟨c, ⟨K.2.1 a c A.1 q, A.2⟩, r⟩
theorem own_Ar.new {z : Int32} (A : Arr Z h a (newA k ty z) ty) {n : Nat} (hn : z.toNatClampNeg = n) : own_Ar Z h a k ty (List.replicate n (defaultValue ty)) := ⟨_, A, rfl, by
  subst hn
  show Array.replicate _ _ = _
  simp⟩
theorem own_Ar.set {j : Nat} (F : own_Ar Z h a k ty vs) (W : Wr h h' a j v) : own_Ar Z h' a k ty (vs.set j v) := by
  obtain ⟨c, A, hk, hs⟩ := F
  refine ⟨c.setSlot j v, A.same W, hk, ?_⟩
  show c.slots.setIfInBounds j v = _
  rw [hs]
  simp
theorem own_in {c : Cell} (hs : c.slots = vs.toArray) {j : Int32} (hj : ¬ j < 0) (hl : j.toNatClampNeg < vs.length) : ¬ (j < 0 ∨ c.slots.size ≤ j.toNatClampNeg) := by
  rw [hs]
  simp only [List.size_toArray]
  intro q
  rcases q with q | q
  · exact hj q
  · omega
theorem own_lt_of {i : Nat} (hv : vs[i]? = some v) : i < vs.length := (List.getElem?_eq_some_iff.mp hv).1
theorem own_get {c : Cell} (hs : c.slots = vs.toArray) {i : Nat} (hv : vs[i]? = some v) : c.slots[i]? = some v := by rw [hs]; simpa using hv
theorem own_ldI (X : Stand p l e R s m args below meth c T locs cells slots) (hx : p.tables.exec = Jvm.exec) (hZ : Z.Warmed39 s.vm) (eT : T.heap = h) (F : own_Ar Z h a k .int vs) {j : Int32} (hj : ¬ j < 0) (hv : vs[j.toNatClampNeg]? = some v) {g : JFrame} (hg : g.method = m) {rest : List Value} (hs : g.stack = .int j :: .ref a :: rest) (hd : decode c.code g.pc = .ok (.iaload, 1)) :
    ∀ t, Steps p.tables e below (T.setTop { g with pc := g.pc + 1, stack := v :: rest }) t → Steps p.tables e below (T.setTop g) t := fun t q => by
  obtain ⟨cl, A, -, hs'⟩ := F
  exact X.iaload hx (by rw [eT]; exact A.1) (State.isArrayOf_alike hZ.alike A.2.1) A.2.2 (own_in hs' hj (own_lt_of hv)) (own_get hs' hv) hg hs hd t q
theorem own_ldJ (X : Stand p l e R s m args below meth c T locs cells slots) (hx : p.tables.exec = Jvm.exec) (hZ : Z.Warmed39 s.vm) (eT : T.heap = h) (F : own_Ar Z h a k .long vs) {j : Int32} (hj : ¬ j < 0) (hv : vs[j.toNatClampNeg]? = some v) {g : JFrame} (hg : g.method = m) {rest : List Value} (hs : g.stack = .int j :: .ref a :: rest) (hd : decode c.code g.pc = .ok (.laload, 1)) :
    ∀ t, Steps p.tables e below (T.setTop { g with pc := g.pc + 1, stack := v :: rest }) t → Steps p.tables e below (T.setTop g) t := fun t q => by
  obtain ⟨cl, A, -, hs'⟩ := F
  exact X.laload hx (by rw [eT]; exact A.1) (State.isArrayOf_alike hZ.alike A.2.1) A.2.2 (own_in hs' hj (own_lt_of hv)) (own_get hs' hv) hg hs hd t q
theorem own_ldZ (X : Stand p l e R s m args below meth c T locs cells slots) (hx : p.tables.exec = Jvm.exec) (hZ : Z.Warmed39 s.vm) (eT : T.heap = h) (F : own_Ar Z h a k .boolean vs) {j : Int32} (hj : ¬ j < 0) (hv : vs[j.toNatClampNeg]? = some v) {g : JFrame} (hg : g.method = m) {rest : List Value} (hs : g.stack = .int j :: .ref a :: rest) (hd : decode c.code g.pc = .ok (.baload, 1)) :
    ∀ t, Steps p.tables e below (T.setTop { g with pc := g.pc + 1, stack := v :: rest }) t → Steps p.tables e below (T.setTop g) t := fun t q => by
  obtain ⟨cl, A, -, hs'⟩ := F
  exact X.baloadBooleans hx (by rw [eT]; exact A.1) (State.isArrayOf_alike hZ.alike A.2.1) A.2.2 (own_in hs' hj (own_lt_of hv)) (own_get hs' hv) hg hs hd t q
theorem own_ldR (X : Stand p l e R s m args below meth c T locs cells slots) (hx : p.tables.exec = Jvm.exec) (hZ : Z.Warmed39 s.vm) (eT : T.heap = h) (F : own_Ar Z h a k ty vs) {j : Int32} (hj : ¬ j < 0) (hv : vs[j.toNatClampNeg]? = some v) (hty : ty.isReference = true) {g : JFrame} (hg : g.method = m) {rest : List Value} (hs : g.stack = .int j :: .ref a :: rest) (hd : decode c.code g.pc = .ok (.aaload, 1)) :
    ∀ t, Steps p.tables e below (T.setTop { g with pc := g.pc + 1, stack := v :: rest }) t → Steps p.tables e below (T.setTop g) t := fun t q => by
  obtain ⟨cl, A, -, hs'⟩ := F
  exact X.aaload hx (by rw [eT]; exact A.1) (State.isArrayOf_alike hZ.alike A.2.1) hty A.2.2 (own_in hs' hj (own_lt_of hv)) (own_get hs' hv) hg hs hd t q
theorem own_alen (X : Stand p l e R s m args below meth c T locs cells slots) (hx : p.tables.exec = Jvm.exec) (hZ : Z.Warmed39 s.vm) (eT : T.heap = h) (F : own_Ar Z h a k ty vs) {g : JFrame} (hg : g.method = m) {rest : List Value} (hs : g.stack = .ref a :: rest) (hd : decode c.code g.pc = .ok (.arraylength, 1)) :
    ∀ t, Steps p.tables e below (T.setTop { g with pc := g.pc + 1, stack := .int vs.length.toInt32 :: rest }) t → Steps p.tables e below (T.setTop g) t := fun t q => by
  obtain ⟨cl, A, -, hs'⟩ := F
  have hl : cl.slots.size = vs.length := by rw [hs']; simp
  rw [← hl] at q
  exact X.arraylength hx (by rw [eT]; exact A.1) (State.isArrayOf_alike hZ.alike A.2.1) hg hs hd t q
theorem own_stI (X : Stand p l e R s m args below meth c T locs cells slots) (hx : p.tables.exec = Jvm.exec) (hZ : Z.Warmed39 s.vm) (eT : T.heap = h) (F : own_Ar Z h a k .int vs) {j x : Int32} (hj : ¬ j < 0) (hl : j.toNatClampNeg < vs.length) {g : JFrame} (hg : g.method = m) {rest : List Value} (hs : g.stack = .int x :: .int j :: .ref a :: rest) (hd : decode c.code g.pc = .ok (.iastore, 1)) :
    ∃ T' h', Stand p l e R s m args below meth c T' (locs ++ [⟨a, j.toNatClampNeg⟩]) cells slots ∧ T'.heap = h' ∧ Wr h h' a j.toNatClampNeg (.int x) ∧ own_Ar Z h' a k .int (vs.set j.toNatClampNeg (.int x)) ∧ ∀ t, Steps p.tables e below (T'.setTop { g with pc := g.pc + 1, stack := rest }) t → Steps p.tables e below (T.setTop g) t := by
  have F0 := F
  obtain ⟨cl, A, -, hs'⟩ := F
  obtain ⟨T', h', X', e', W, st⟩ := stI X hx hZ eT A (own_in hs' hj hl) hg hs hd
  exact ⟨T', h', X', e', W, F0.set W, st⟩
theorem own_stJ (X : Stand p l e R s m args below meth c T locs cells slots) (hx : p.tables.exec = Jvm.exec) (hZ : Z.Warmed39 s.vm) (eT : T.heap = h) (F : own_Ar Z h a k .long vs) {j : Int32} {x : Int64} (hj : ¬ j < 0) (hl : j.toNatClampNeg < vs.length) {g : JFrame} (hg : g.method = m) {rest : List Value} (hs : g.stack = .long x :: .int j :: .ref a :: rest) (hd : decode c.code g.pc = .ok (.lastore, 1)) :
    ∃ T' h', Stand p l e R s m args below meth c T' (locs ++ [⟨a, j.toNatClampNeg⟩]) cells slots ∧ T'.heap = h' ∧ Wr h h' a j.toNatClampNeg (.long x) ∧ own_Ar Z h' a k .long (vs.set j.toNatClampNeg (.long x)) ∧ ∀ t, Steps p.tables e below (T'.setTop { g with pc := g.pc + 1, stack := rest }) t → Steps p.tables e below (T.setTop g) t := by
  have F0 := F
  obtain ⟨cl, A, -, hs'⟩ := F
  obtain ⟨T', h', X', e', W, st⟩ := stJ X hx hZ eT A (own_in hs' hj hl) hg hs hd
  exact ⟨T', h', X', e', W, F0.set W, st⟩
theorem own_stZ (X : Stand p l e R s m args below meth c T locs cells slots) (hx : p.tables.exec = Jvm.exec) (hZ : Z.Warmed39 s.vm) (eT : T.heap = h) (F : own_Ar Z h a k .boolean vs) {j x : Int32} (hj : ¬ j < 0) (hl : j.toNatClampNeg < vs.length) {g : JFrame} (hg : g.method = m) {rest : List Value} (hs : g.stack = .int x :: .int j :: .ref a :: rest) (hd : decode c.code g.pc = .ok (.bastore, 1)) :
    ∃ T' h', Stand p l e R s m args below meth c T' (locs ++ [⟨a, j.toNatClampNeg⟩]) cells slots ∧ T'.heap = h' ∧ Wr h h' a j.toNatClampNeg (.int (nar .boolean x)) ∧ own_Ar Z h' a k .boolean (vs.set j.toNatClampNeg (.int (nar .boolean x))) ∧ ∀ t, Steps p.tables e below (T'.setTop { g with pc := g.pc + 1, stack := rest }) t → Steps p.tables e below (T.setTop g) t := by
  have F0 := F
  obtain ⟨cl, A, -, hs'⟩ := F
  obtain ⟨T', h', X', e', W, st⟩ := stZ X hx hZ eT A (own_in hs' hj hl) hg hs hd
  exact ⟨T', h', X', e', W, F0.set W, st⟩
theorem own_ldC (X : Stand p l e R s m args below meth c T locs cells slots) (hx : p.tables.exec = Jvm.exec) (hZ : Z.Warmed39 s.vm) (eT : T.heap = h) (F : own_Ar Z h a k .char vs) {j : Int32} (hj : ¬ j < 0) (hv : vs[j.toNatClampNeg]? = some v) {g : JFrame} (hg : g.method = m) {rest : List Value} (hs : g.stack = .int j :: .ref a :: rest) (hd : decode c.code g.pc = .ok (.caload, 1)) :
    ∀ t, Steps p.tables e below (T.setTop { g with pc := g.pc + 1, stack := v :: rest }) t → Steps p.tables e below (T.setTop g) t := fun t q => by
  obtain ⟨cl, A, -, hs'⟩ := F
  exact X.caload hx (by rw [eT]; exact A.1) (State.isArrayOf_alike hZ.alike A.2.1) A.2.2 (own_in hs' hj (own_lt_of hv)) (own_get hs' hv) hg hs hd t q
theorem own_stC (X : Stand p l e R s m args below meth c T locs cells slots) (hx : p.tables.exec = Jvm.exec) (hZ : Z.Warmed39 s.vm) (eT : T.heap = h) (F : own_Ar Z h a k .char vs) {j x : Int32} (hj : ¬ j < 0) (hl : j.toNatClampNeg < vs.length) {g : JFrame} (hg : g.method = m) {rest : List Value} (hs : g.stack = .int x :: .int j :: .ref a :: rest) (hd : decode c.code g.pc = .ok (.castore, 1)) :
    ∃ T' h', Stand p l e R s m args below meth c T' (locs ++ [⟨a, j.toNatClampNeg⟩]) cells slots ∧ T'.heap = h' ∧ Wr h h' a j.toNatClampNeg (.int (nar .char x)) ∧ own_Ar Z h' a k .char (vs.set j.toNatClampNeg (.int (nar .char x))) ∧ ∀ t, Steps p.tables e below (T'.setTop { g with pc := g.pc + 1, stack := rest }) t → Steps p.tables e below (T.setTop g) t := by
  have F0 := F
  obtain ⟨cl, A, -, hs'⟩ := F
  obtain ⟨T', h', X', e', W, st⟩ := stC X hx hZ eT A (own_in hs' hj hl) hg hs hd
  exact ⟨T', h', X', e', W, F0.set W, st⟩
theorem own_stB (X : Stand p l e R s m args below meth c T locs cells slots) (hx : p.tables.exec = Jvm.exec) (hZ : Z.Warmed39 s.vm) (eT : T.heap = h) (F : own_Ar Z h a k .byte vs) {j x : Int32} (hj : ¬ j < 0) (hl : j.toNatClampNeg < vs.length) {g : JFrame} (hg : g.method = m) {rest : List Value} (hs : g.stack = .int x :: .int j :: .ref a :: rest) (hd : decode c.code g.pc = .ok (.bastore, 1)) :
    ∃ T' h', Stand p l e R s m args below meth c T' (locs ++ [⟨a, j.toNatClampNeg⟩]) cells slots ∧ T'.heap = h' ∧ Wr h h' a j.toNatClampNeg (.int (nar .byte x)) ∧ own_Ar Z h' a k .byte (vs.set j.toNatClampNeg (.int (nar .byte x))) ∧ ∀ t, Steps p.tables e below (T'.setTop { g with pc := g.pc + 1, stack := rest }) t → Steps p.tables e below (T.setTop g) t := by
  have F0 := F
  obtain ⟨cl, A, -, hs'⟩ := F
  obtain ⟨T', h', X', e', W, st⟩ := stB X hx hZ eT A (own_in hs' hj hl) hg hs hd
  exact ⟨T', h', X', e', W, F0.set W, st⟩
theorem own_stR {C : String} {y : Addr} (X : Stand p l e R s m args below meth c T locs cells slots) (hx : p.tables.exec = Jvm.exec) (hZ : Z.Warmed39 s.vm) (eT : T.heap = h) (F : own_Ar Z h a k (.object C) vs) (O : Ovr Z k C) (I : Ins Z h y C true) {j : Int32} (hj : ¬ j < 0) (hl : j.toNatClampNeg < vs.length) {g : JFrame} (hg : g.method = m) {rest : List Value} (hs : g.stack = .ref y :: .int j :: .ref a :: rest) (hd : decode c.code g.pc = .ok (.aastore, 1)) :
    ∃ T' h', Stand p l e R s m args below meth c T' (locs ++ [⟨a, j.toNatClampNeg⟩]) cells slots ∧ T'.heap = h' ∧ Wr h h' a j.toNatClampNeg (.ref y) ∧ own_Ar Z h' a k (.object C) (vs.set j.toNatClampNeg (.ref y)) ∧ ∀ t, Steps p.tables e below (T'.setTop { g with pc := g.pc + 1, stack := rest }) t → Steps p.tables e below (T.setTop g) t := by
  have F0 := F
  obtain ⟨cl, A, hk, hs'⟩ := F
  obtain ⟨T', h', X', e', W, st⟩ := stR X hx hZ eT A (own_in hs' hj hl) rfl (Sto.ofV A hk O I) hg hs hd
  exact ⟨T', h', X', e', W, F0.set W, st⟩
theorem own_ar_plain (F : own_Ar Z h a k ty vs) : ∀ cell : Cell, h[a]? = some cell → cell.vm.isStatics = false := fun cell hc => by
  obtain ⟨c1, A, -⟩ := F
  cases A.1.symm.trans hc
  exact A.plain
end OwnArr
theorem own_fieldI {Z : State} {args : Array Value} {t : Term} {C n d : String} {k : Int32} {a : Addr} (ev : t.eval args Z none [] Z = some (.ref a)) (h : (Cond.eq (.field t C n d) (.int k)).value args Z none Z [] = some true) : Fld Z Z.heap a C n d (.int k) := by
  obtain ⟨x, y, h1, h2, k1, k2⟩ := cmp_v (Or.inl h)
  have hy : y = .int k := (Option.some.inj h2).symm
  subst hy
  obtain ⟨z, rfl⟩ : ∃ z, x = .int z := k2
  have hz : z = k := gotT (Cond.eq_ints h1 h2) h
  subst hz
  exact Fld.start ((fld_at ev).symm.trans h1)
theorem own_exa_plain {Z : State} {h : Heap} {a : Addr} {C : String} (F : Exa Z h a C) : ∀ cell : Cell, h[a]? = some cell → cell.vm.isStatics = false := fun cell hc => by
  obtain ⟨c1, k, h1, h2, h3, h4, h5⟩ := F
  cases h1.symm.trans hc
  exact h4
theorem own_allS {P : Addr → Prop} {y : Addr} {L : List Addr} (q : P y) (r : ∀ x ∈ L, P x) : ∀ x ∈ y :: L, P x := fun x z => (List.mem_cons.mp z).elim (fun u => u ▸ q) (r x)
theorem own_NSr {Z : State} {a0 : Array Value} {O K : String} {n : Nat} (w : (Cond.noSuperclass O).before a0 Z = true) (wk : (Cond.instantiable K n).before a0 Z = true) (hn : O ≠ K) : NS Z O K := by
  obtain ⟨c, k, h1, h2, h3, -, -⟩ := Cond.noSuperclass_spec w
  obtain ⟨t, kt, g1, -⟩ := Cond.instantiable_spec wk
  refine ⟨c, t, h1, g1, fun fuel => ?_⟩
  have ne := ids_ne h1 g1 hn
  cases fuel with
  | zero => rfl
  | succ f => simp [Vm.isSubclassAux, ne, h2, h3]
theorem own_NSn {Z : State} {a0 : Array Value} {C S K : String} {n : Nat} (w : (Cond.superclass C S).before a0 Z = true) (wk : (Cond.instantiable K n).before a0 Z = true) (q : NS Z C K) : ∃ c t, Z.vm.findClass C = some c ∧ Z.vm.findClass K = some t ∧ Z.vm.assignable c t = false := by
  obtain ⟨c, t, h0, g0, h3⟩ := q
  obtain ⟨p, k, kp, -, h2, -, -, h5, -⟩ := Cond.superclass_spec h0 w
  obtain ⟨t', kt, g1, g2, g3, g4, -⟩ := Cond.instantiable_spec wk
  cases g0.symm.trans g1
  refine ⟨c, t, h0, g0, ?_⟩
  cases hA : Z.vm.assignable c t with
  | false => rfl
  | true =>
    have hi : kt.isInterface = false := by
      cases hk : kt.isInterface with
      | false => rfl
      | true => rw [hk] at g4; cases g4
    have hS : Z.vm.isSubclass c t = true := isSubclass_of_assignable h2 g2 h5 g3 hi hA
    have hF : Z.vm.isSubclass c t = false := h3 _
    rw [hF] at hS
    cases hS
theorem own_selP {s : State} {args : Array Value} {y : MethodName} {n : Nat} (wi : (Cond.instantiable y.cls n).before args s = true) (hp : s.PrivateAt y) (hi : (Cond.instanceMethod y).before args s = true) (hy : y.cls ≠ "java/lang/invoke/MethodHandle" ∧ y.cls ≠ "java/lang/invoke/VarHandle") : (Cond.selects y.cls y y).before args s = true := by
  obtain ⟨c, k, h1, h2, -, h4, -⟩ := Cond.instantiable_spec wi
  have hk : k.isInterface = false := by
    cases q : k.isInterface with
    | false => rfl
    | true => rw [q] at h4; cases h4
  exact selects_self_of_private h1 h2 hk hp hi hy
theorem own_dup2x1 {tb : Tables} [Ours tb] {e : Env} {below : List Frame} {T target : State} {m : MethodId} {c : Code} {g : JFrame} (h : At T m c below) (hx : tb.exec = Jvm.exec) (hg : g.method = m) {x : Int64} {y : Value} {rest : List Value} (hd : decode c.code g.pc = .ok (.dup2_x1, 1)) (hs : g.stack = .long x :: y :: rest) (hc : y.category = 1)
    (hr : Steps tb e below (T.setTop { g with pc := g.pc + 1, stack := .long x :: y :: .long x :: rest }) target) : Steps tb e below (T.setTop g) target := by
  subst hg
  jvm_step h [h.top, hx, hd, hs, hc, dup2_x1.wp_sem, Value.category]
  exact ⟨hc, hr⟩
/-- the cache of the boxed longs: 256 places, the j-th a Long that holds j - 128 -/
def own_Cache (Z : State) (ca : Addr) : Prop := ∃ c : Cell, Bxs Z ca c "java/lang/Long" "J" 256 (fun j => .long (j - (128 : Int32)).toInt64)
theorem own_idx0 (x : Int64) (h1 : ¬ x < (-128 : Int64)) (h2 : ¬ (127 : Int64) < x) : (((x).toInt32) + (128 : Int32)).toInt = x.toInt + 128 ∧ -128 ≤ x.toInt ∧ x.toInt ≤ 127 := by
  have a1 : (-128 : Int64).toInt = -128 := rfl
  have a2 : (127 : Int64).toInt = 127 := rfl
  have a3 : (128 : Int32).toInt = 128 := rfl
  rw [Int64.lt_iff_toInt_lt] at h1 h2
  have b1 := c_l2i x
  have b2 := c_iadd x.toInt32 128
  have b3 := rng32 (x.toInt32 + 128)
  have b4 := rng32 x.toInt32
  omega
theorem own_inC {c : Cell} (x : Int64) (h1 : ¬ x < (-128 : Int64)) (h2 : ¬ (127 : Int64) < x) (hs : c.slots.size = (256 : Int32).toNatClampNeg) : ¬ ((((x).toInt32) + (128 : Int32)) < 0 ∨ c.slots.size ≤ (((x).toInt32) + (128 : Int32)).toNatClampNeg) := by
  obtain ⟨e, b1, b2⟩ := own_idx0 x h1 h2
  have a0 : (0 : Int32).toInt = 0 := rfl
  have a1 : (256 : Int32).toNatClampNeg = 256 := rfl
  have a2 : (((x).toInt32) + (128 : Int32)).toNatClampNeg = (x.toInt + 128).toNat := by rw [← e]; rfl
  rw [hs, a1, a2, Int32.lt_iff_toInt_lt]
  omega
theorem own_back (x : Int64) (h1 : ¬ x < (-128 : Int64)) (h2 : ¬ (127 : Int64) < x) : ((((x).toInt32) + (128 : Int32)) - (128 : Int32)).toInt64 = x := by
  obtain ⟨e, b1, b2⟩ := own_idx0 x h1 h2
  apply Int64.toInt_inj.mp
  rw [c_i2l]
  have a3 : (128 : Int32).toInt = 128 := rfl
  have b2 := c_isub (x.toInt32 + 128) 128
  have b3 := rng32 (x.toInt32 + 128 - 128)
  omega
theorem own_look {Z : State} {h : Heap} {ca : Addr} {c : Cell} (F : Bxs Z ca c "java/lang/Long" "J" 256 (fun j => .long (j - (128 : Int32)).toInt64)) (E : Ext Z.heap h) (x : Int64) (h1 : ¬ x < (-128 : Int64)) (h2 : ¬ (127 : Int64) < x) : ∃ r, c.slots[(((x).toInt32) + (128 : Int32)).toNatClampNeg]? = some (.ref r) ∧ Exa Z h r "java/lang/Long" ∧ Fld Z h r "java/lang/Long" "value" "J" (.long x) := by
  obtain ⟨r, q1, q2, q3⟩ := F.2.2.2 _ (own_inC x h1 h2 F.2.1)
  dsimp only at q3
  rw [own_back x h1 h2] at q3
  exact ⟨r, q1, q2.ext E, q3.ext E⟩
theorem own_len {Z : State} {args : Array Value} {t : Term} {a : Addr} {c : Cell} {n : Int32} (ev : t.eval args Z none [] Z = some (.ref a)) (hA : Z.arrayAt? a = some c) (hl : (Term.length t).eval args Z none [] Z = some (.int n)) : c.slots.size < 2 ^ 31 ∧ c.slots.size.toInt32 = n := by
  by_cases q : c.slots.size < 2 ^ 31
  · rw [len_f ev hA q] at hl
    injection hl with hl
    injection hl with hl
    exact ⟨q, hl⟩
  · simp [Term.eval, ev, hA, q] at hl
theorem own_sub {Z : State} {args : Array Value} {t u : Term} {idx : List Nat} {x y : Int32} (ha : t.eval args Z none idx Z = some (.int x)) (hb : u.eval args Z none idx Z = some (.int y)) : (Term.sub t u).eval args Z none idx Z = some (.int (x - y)) := by simp [Term.eval, ha, hb]
theorem own_cache0 {Z : State} {args : Array Value} {C n d : String} {ca : Addr} (ev : (Term.static C n d).eval args Z none [] Z = some (.ref ca)) (h1 : (Cond.arrayOf (Term.static C n d) (.object "java/lang/Long")).value args Z none Z [] = some true) (h2 : (Cond.eq (.length (Term.static C n d)) (.int 256)).value args Z none Z [] = some true) (h3 : (Cond.all (Term.static C n d) (Cond.and (Cond.exactly (.elem (Term.static C n d) (.index 0)) "java/lang/Long") (Cond.eq (.field (.elem (Term.static C n d) (.index 0)) "java/lang/Long" "value" "J") (.op1 .i2l (.sub (.index 0) (.int 128)))))).value args Z none Z [] = some true) : own_Cache Z ca := by
  obtain ⟨c, A⟩ := Arr.start ev h1
  have hl := eqv_i (Term.int_eval 256) h2
  obtain ⟨hq, he⟩ := own_len ev (A.fin (Vm.Alike.refl _)) hl
  refine ⟨c, Bxs.start (fun idx => ev) A hq he (by decide) h3 (fun X j hj hX => eqv_l (i2l_at ?_) hX)⟩
  exact own_sub (idx_at hj) (Term.int_eval 128)
theorem own_m6 (x i : Int32) (h : i = (x &&& (2147483647 : Int32)) % (6 : Int32)) : i = 0 ∨ i = 1 ∨ i = 2 ∨ i = 3 ∨ i = 4 ∨ i = 5 := by
  have hm := c_mask x 2147483647 31 (by decide) (by decide)
  have hi : i.toInt = ((x &&& (2147483647 : Int32)).toInt).tmod 6 := by rw [h, Int32.toInt_mod]; rfl
  have e0 : (0 : Int32).toInt = 0 := rfl
  have e1 : (1 : Int32).toInt = 1 := rfl
  have e2 : (2 : Int32).toInt = 2 := rfl
  have e3 : (3 : Int32).toInt = 3 := rfl
  have e4 : (4 : Int32).toInt = 4 := rfl
  have e5 : (5 : Int32).toInt = 5 := rfl
  simp only [← Int32.toInt_inj]
  rw [Int.tmod_eq_emod_of_nonneg (by omega)] at hi
  omega
theorem own_ch (x : Int32) : ¬ ((255 : Int32) < nar .char ((x &&& (255 : Int32)).toUInt32.toUInt16.toUInt32.toInt32)) := by
  show ¬ ((255 : Int32) < ((x &&& (255 : Int32)).toUInt32.toUInt16.toUInt32.toInt32).toUInt32.toUInt16.toUInt32.toInt32)
  rw [i2c_mask, i2c_mask]
  have hm := c_mask x 255 8 (by decide) (by decide)
  have e : (255 : Int32).toInt = 255 := rfl
  rw [Int32.lt_iff_toInt_lt, e, hm]
  omega
theorem own_empty {Z : State} {args : Array Value} {t : Term} {ea : Addr} {ty : FieldType} (ev : t.eval args Z none [] Z = some (.ref ea)) (h1 : (Cond.arrayOf t ty).value args Z none Z [] = some true) (h2 : (Cond.eq (.length t) (.int 0)).value args Z none Z [] = some true) : ∃ k, own_Ar Z Z.heap ea k ty [] := by
  obtain ⟨c, A⟩ := Arr.start ev h1
  obtain ⟨hq, he⟩ := own_len ev (A.fin (Vm.Alike.refl _)) (eqv_i (Term.int_eval 0) h2)
  refine ⟨c.cls, c, A, rfl, ?_⟩
  have h0 : c.slots.size = 0 := by
    have := congrArg Int32.toInt he
    rw [len_toInt hq] at this
    have e0 : (0 : Int32).toInt = 0 := rfl
    omega
  exact Array.eq_empty_of_size_eq_zero h0
abbrev own_y0 : MethodName := ⟨"java/lang/Number", "<init>", "()V"⟩
abbrev own_y1 : MethodName := ⟨"java/lang/Long", "<init>", "(J)V"⟩
abbrev own_y2 : MethodName := ⟨"java/lang/Long", "valueOf", "(J)Ljava/lang/Long;"⟩
abbrev own_y3 : MethodName := ⟨"java/lang/StringUTF16", "coderFromArrayLen", "([BI)B"⟩
abbrev own_y4 : MethodName := ⟨"java/lang/StringUTF16", "compress", "([CI[BII)I"⟩
abbrev own_y5 : MethodName := ⟨"java/lang/StringUTF16", "compress", "([CII)[B"⟩
abbrev own_y6 : MethodName := ⟨"java/lang/String", "<init>", "([CIILjava/lang/Void;)V"⟩
abbrev own_y7 : MethodName := ⟨"java/lang/String", "<init>", "([C)V"⟩
abbrev own_y8 : MethodName := ⟨"java/util/AbstractCollection", "<init>", "()V"⟩
abbrev own_y9 : MethodName := ⟨"java/util/AbstractList", "<init>", "()V"⟩
abbrev own_y10 : MethodName := ⟨"java/util/ArrayList", "<init>", "()V"⟩
abbrev own_y11 : MethodName := ⟨"java/lang/Math", "max", "(II)I"⟩
abbrev own_y12 : MethodName := ⟨"java/util/ArrayList", "grow", "(I)[Ljava/lang/Object;"⟩
abbrev own_y13 : MethodName := ⟨"java/util/ArrayList", "grow", "()[Ljava/lang/Object;"⟩
abbrev own_y14 : MethodName := ⟨"java/util/ArrayList", "add", "(Ljava/lang/Object;[Ljava/lang/Object;I)V"⟩
abbrev own_y15 : MethodName := ⟨"java/util/ArrayList", "add", "(Ljava/lang/Object;)Z"⟩
abbrev own_y16 : MethodName := ⟨"java/lang/Record", "<init>", "()V"⟩
abbrev own_y17 : MethodName := ⟨"com/example/lockstep/lockstep/history/Edn$BigInt", "<init>", "(Ljava/lang/String;)V"⟩
abbrev own_y18 : MethodName := ⟨"com/example/lockstep/lockstep/history/Edn$Decimal", "<init>", "(Ljava/lang/String;J)V"⟩
abbrev own_y19 : MethodName := ⟨"com/example/lockstep/lockstep/history/Edn", "isInteger", "(Ljava/lang/Object;)Z"⟩
theorem d18_0 : decode jdk_18_method_1_code 0 = .ok (.aload_n 0, 1) := by decide +kernel
theorem d18_1 : decode jdk_18_method_1_code 1 = .ok (.invokespecial 1, 3) := by decide +kernel
theorem d18_4 : decode jdk_18_method_1_code 4 = .ok (.return_, 1) := by decide +kernel
theorem own_pf_nu : plainFor own_y0 = true := by first | exact plainFor_of_name (show plainName "java/lang/Number" = true by first | (simp [plainName, overriddenIn]; done) | decide +kernel) | decide +kernel
theorem own_ef_nu (m : MethodId) (y0 : Addr) : entryFrame m #[(.ref y0)] 1 = mkF m 0 #[rv y0] [] := by first | (simp [entryFrame, mkF, argsToLocals, Value.category]; done) | rfl
def own_Qnu (Z : State) (a : Addr) (h0 : Heap) (n0 : Nat) (v : Option Value) (h : Heap) (L : List Loc) : Prop := v = none ∧ Fr n0 L ∧ h = h0
set_option maxRecDepth 65536 in
set_option maxHeartbeats 40000000 in
theorem own_rmnu (l : Launch) (Z : State) (a0 : Array Value) (hw : ∀ d ∈ tables_1, d.before a0 Z = true) (ws : List Jvm.Cond) (a : Addr) (h0 : Heap) (n0 : Nat) (Z0 : n0 ≤ h0.size)  :
    MetFree l own_y0 (head1 (Jvm.Cond.code own_y0 jdk_18_method_1_code 1 none :: ws) ({ frames := 1, cells := 0, slots := 0, locals := 12 } : Room)) (fun az Uz => az = #[(.ref a)] ∧ Z.Warmed39 Uz.vm ∧ Uz.heap = h0) (fun _ _ _ _ _ => True) (fun _ U o U' => ∃ v L, o = .returned v ∧ own_Qnu Z a h0 n0 v U'.heap L ∧ FrameEnd U o U' L ({ frames := 1, cells := 0, slots := 0, locals := 12 } : Room).cells ({ frames := 1, cells := 0, slots := 0, locals := 12 } : Room).slots) := by
  refine MetFree.of_bodySF own_pf_nu hisR ?_
  intro p e s m args below meth c s₁ Bd hml0 hP hK
  obtain ⟨rfl, hZ, hh⟩ := hP
  have hx := Bd.exec
  have hby := Bd.bytes
  have hml : c.maxLocals = 1 := hml0
  have hown : s.vm.findClass "java/lang/Number" = some m.cls := findClass_of_methodNamed Bd.named
  have hnm := (name_of_methodNamed Bd.named Bd.method).1
  have hlk : meth.locks = false := BodyLoose.notSynchronized Bd
  have hret := Bd.returns
  have X0 : Stand p l e ({ frames := 1, cells := 0, slots := 0, locals := 12 } : Room) s m #[(.ref a)] below meth c s₁ [] 0 0 := Stand.of_body Bd
  have e0 : s₁.heap = h0 := by rw [← hh, Bd.state]; rfl
  have N0 := Fr.nil n0
  show own_E p e below (own_K s (own_Qnu Z a h0 n0) ({ frames := 1, cells := 0, slots := 0, locals := 12 } : Room).cells ({ frames := 1, cells := 0, slots := 0, locals := 12 } : Room).slots) s₁ (entryFrame m #[(.ref a)] 1)
  refine own_S (mkF m 0 #[rv a] []) (fun _ k => castTop (own_ef_nu m (a)) k) ?_
  refine own_S (mkF m 1 #[rv a] [(.ref a)]) (fun _ k => XS.aloadN X0.here hx rfl (hb hby d18_0) rfl rfl k) ?_
  obtain ⟨T1, X1, e1, st1⟩ := initO X0 hx hZ hown (own_g hw (i := 114) rfl) (own_g hw (i := 13) rfl) (own_g hw (i := 14) rfl) e0 (g := (mkF m 1 #[rv a] [(.ref a)])) rfl (by rw [hml]; rfl) rfl (hb hby d18_1) (by decide) (W := 0) (by show 2 * 0 + _ ≤ _; exact Nat.le_of_eq rfl) (by decide)
  refine own_S (mkF m 4 #[rv a] []) st1 ?_
  exact own_ret0 X1 hx hlk hret (hb hby d18_4) (by rw [e1]; exact ⟨rfl, N0, rfl⟩) (by decide) (by decide)
theorem d17_0 : decode jdk_35_method_26_code 0 = .ok (.aload_n 0, 1) := by decide +kernel
theorem d17_1 : decode jdk_35_method_26_code 1 = .ok (.invokespecial 270, 3) := by decide +kernel
theorem d17_4 : decode jdk_35_method_26_code 4 = .ok (.aload_n 0, 1) := by decide +kernel
theorem d17_5 : decode jdk_35_method_26_code 5 = .ok (.lload_n 1, 1) := by decide +kernel
theorem d17_6 : decode jdk_35_method_26_code 6 = .ok (.putfield 273, 3) := by decide +kernel
theorem d17_9 : decode jdk_35_method_26_code 9 = .ok (.return_, 1) := by decide +kernel
theorem own_pd___V : parseMethodDescriptor "()V" = some ⟨[], none⟩ := by decide +kernel
theorem own_pf_li : plainFor own_y1 = true := by first | exact plainFor_of_name (show plainName "java/lang/Long" = true by first | (simp [plainName, overriddenIn]; done) | decide +kernel) | decide +kernel
theorem own_ef_li (m : MethodId) (y0 : Addr) (y1 : Int64) : entryFrame m #[(.ref y0), (.long y1)] 3 = mkF m 0 #[rv y0, .val (.long y1), .second] [] := by first | (simp [entryFrame, mkF, argsToLocals, Value.category]; done) | rfl
def own_Qli (Z : State) (a : Addr) (x : Int64) (u1 : Value) (h0 : Heap) (n0 : Nat) (v : Option Value) (h : Heap) (L : List Loc) : Prop := v = none ∧ Fr n0 L ∧ Keep h0 h [a] ∧ Exa Z h a "java/lang/Long" ∧ Fld Z h a "java/lang/Long" "value" "J" (.long x)
set_option maxRecDepth 65536 in
set_option maxHeartbeats 40000000 in
theorem own_rmli (l : Launch) (Z : State) (a0 : Array Value) (hw : ∀ d ∈ tables_1, d.before a0 Z = true) (ws : List Jvm.Cond) (a : Addr) (x : Int64) (u1 : Value) (h0 : Heap) (n0 : Nat) (Z0 : n0 ≤ h0.size) (P0 : Exa Z h0 a "java/lang/Long") (P1 : Fld Z h0 a "java/lang/Long" "value" "J" u1) (G_a : n0 ≤ a) :
    MetFree l own_y1 (head1 (Jvm.Cond.code own_y1 jdk_35_method_26_code 3 none :: ws) ({ frames := 2, cells := 0, slots := 0, locals := 24 } : Room)) (fun az Uz => az = #[(.ref a), (.long x)] ∧ Z.Warmed39 Uz.vm ∧ Uz.heap = h0) (fun _ _ _ _ _ => True) (fun _ U o U' => ∃ v L, o = .returned v ∧ own_Qli Z a x u1 h0 n0 v U'.heap L ∧ FrameEnd U o U' L ({ frames := 2, cells := 0, slots := 0, locals := 24 } : Room).cells ({ frames := 2, cells := 0, slots := 0, locals := 24 } : Room).slots) := by
  refine MetFree.of_bodySF own_pf_li hisR ?_
  intro p e s m args below meth c s₁ Bd hml0 hP hK
  obtain ⟨rfl, hZ, hh⟩ := hP
  have hx := Bd.exec
  have hby := Bd.bytes
  have hml : c.maxLocals = 3 := hml0
  have hown : s.vm.findClass "java/lang/Long" = some m.cls := findClass_of_methodNamed Bd.named
  have hnm := (name_of_methodNamed Bd.named Bd.method).1
  have hlk : meth.locks = false := BodyLoose.notSynchronized Bd
  have hret := Bd.returns
  have X0 : Stand p l e ({ frames := 2, cells := 0, slots := 0, locals := 24 } : Room) s m #[(.ref a), (.long x)] below meth c s₁ [] 0 0 := Stand.of_body Bd
  have e0 : s₁.heap = h0 := by rw [← hh, Bd.state]; rfl
  have N0 := Fr.nil n0
  show own_E p e below (own_K s (own_Qli Z a x u1 h0 n0) ({ frames := 2, cells := 0, slots := 0, locals := 24 } : Room).cells ({ frames := 2, cells := 0, slots := 0, locals := 24 } : Room).slots) s₁ (entryFrame m #[(.ref a), (.long x)] 3)
  refine own_S (mkF m 0 #[rv a, .val (.long x), .second] []) (fun _ k => castTop (own_ef_li m (a) (x)) k) ?_
  refine own_S (mkF m 1 #[rv a, .val (.long x), .second] [(.ref a)]) (fun _ k => XS.aloadN X0.here hx rfl (hb hby d17_0) rfl rfl k) ?_
  obtain ⟨_, _, ⟨T1, L1, k1, n1⟩, -, X1, ⟨Lc1, hQ1, l1, y1, z1⟩, st1⟩ := X0.specialBack hx (y := own_y0) rfl hown (mvT hZ (own_g hw (i := 108) rfl)) (mvT hZ (own_g hw (i := 109) rfl)) (mvT hZ (own_g hw (i := 113) rfl)) (by decide) (backOf (W := 0) (own_rmnu l Z a0 hw [] (a) h0 n0 Z0 ) hZ (own_g hw (i := 113) rfl) (own_g hw (i := 112) rfl) (by decide) (by decide)) (g := (mkF m 1 #[rv a, .val (.long x), .second] [(.ref a)])) rfl (by rw [hml]; rfl) (Steps.refl _) (a := a) (argsL := []) (rest := []) (lenOf own_pd___V rfl) rfl (by show 2 * 0 + _ ≤ _; exact Nat.le_of_eq rfl) (hb hby d17_1) (fun _ _ => ⟨rfl, e0, (by decide : 0 + 0 ≤ _), (by decide : 0 + 0 ≤ _)⟩)
  dsimp only [Pt.U, Pt.locs, Pt.cells, Pt.slots] at X1 l1 y1 z1 st1 hQ1
  subst l1 y1 z1
  obtain ⟨rfl, N1q, e1⟩ := hQ1
  have N1 := Fr.app N0 N1q
  refine own_S (mkF m 4 #[rv a, .val (.long x), .second] []) (fun _ k => st1.trans k) ?_
  refine own_S (mkF m 5 #[rv a, .val (.long x), .second] [(.ref a)]) (fun _ k => XS.aloadN X1.here hx rfl (hb hby d17_4) rfl rfl k) ?_
  refine own_S (mkF m 6 #[rv a, .val (.long x), .second] [(.long x), (.ref a)]) (fun _ k => XS.lloadN X1.here hx rfl (hb hby d17_5) rfl k) ?_
  obtain ⟨T2, h2, X2, e2, W2, st2⟩ := putF X1 hx hZ hown (host := "") (Or.inl (own_g hw (i := 115) rfl)) Via.refl e1 P1 P0 (Or.inr ⟨(own_g hw (i := 116) rfl), rfl, hnm⟩) (own_g hw (i := 103) rfl) (ty := .long) (by decide) rfl rfl (g := (mkF m 6 #[rv a, .val (.long x), .second] [(.long x), (.ref a)])) rfl rfl (hb hby d17_6)
  refine own_S (mkF m 9 #[rv a, .val (.long x), .second] []) st2 ?_
  have F3 := P0.wr W2
  have F4 := P1.same W2
  have N2 := Fr.snoc X2 N1 G_a
  have Z2 : n0 ≤ h2.size := by rw [Wr.size W2]; exact Z0
  have K2 : Keep h0 h2 [a] := (Keep.refl _ _).wr W2 (Or.inl (List.mem_of_getElem? (i := 0) rfl))
  exact own_ret0 X2 hx hlk hret (hb hby d17_9) (by rw [e2]; exact ⟨rfl, N2, K2, F3, F4⟩) (by decide) (by decide)
theorem d10_0 : decode jdk_35_method_24_code 0 = .ok (.sipush 128, 3) := by decide +kernel
theorem d10_3 : decode jdk_35_method_24_code 3 = .ok (.istore_n 2, 1) := by decide +kernel
theorem d10_4 : decode jdk_35_method_24_code 4 = .ok (.lload_n 0, 1) := by decide +kernel
theorem d10_5 : decode jdk_35_method_24_code 5 = .ok (.ldc2_w 230, 3) := by decide +kernel
theorem d10_8 : decode jdk_35_method_24_code 8 = .ok (.lcmp, 1) := by decide +kernel
theorem d10_9 : decode jdk_35_method_24_code 9 = .ok (.ifCond .lt 22, 3) := by decide +kernel
theorem d10_12 : decode jdk_35_method_24_code 12 = .ok (.lload_n 0, 1) := by decide +kernel
theorem d10_13 : decode jdk_35_method_24_code 13 = .ok (.ldc2_w 232, 3) := by decide +kernel
theorem d10_16 : decode jdk_35_method_24_code 16 = .ok (.lcmp, 1) := by decide +kernel
theorem d10_17 : decode jdk_35_method_24_code 17 = .ok (.ifCond .gt 14, 3) := by decide +kernel
theorem d10_20 : decode jdk_35_method_24_code 20 = .ok (.getstatic 234, 3) := by decide +kernel
theorem d10_23 : decode jdk_35_method_24_code 23 = .ok (.lload_n 0, 1) := by decide +kernel
theorem d10_24 : decode jdk_35_method_24_code 24 = .ok (.l2i, 1) := by decide +kernel
theorem d10_25 : decode jdk_35_method_24_code 25 = .ok (.sipush 128, 3) := by decide +kernel
theorem d10_28 : decode jdk_35_method_24_code 28 = .ok (.iadd, 1) := by decide +kernel
theorem d10_29 : decode jdk_35_method_24_code 29 = .ok (.aaload, 1) := by decide +kernel
theorem d10_30 : decode jdk_35_method_24_code 30 = .ok (.areturn, 1) := by decide +kernel
theorem d10_31 : decode jdk_35_method_24_code 31 = .ok (.new 1, 3) := by decide +kernel
theorem d10_34 : decode jdk_35_method_24_code 34 = .ok (.dup, 1) := by decide +kernel
theorem d10_35 : decode jdk_35_method_24_code 35 = .ok (.lload_n 0, 1) := by decide +kernel
theorem d10_36 : decode jdk_35_method_24_code 36 = .ok (.invokespecial 240, 3) := by decide +kernel
theorem d10_39 : decode jdk_35_method_24_code 39 = .ok (.areturn, 1) := by decide +kernel
theorem own_pd__J_V : parseMethodDescriptor "(J)V" = some ⟨[.long], none⟩ := by decide +kernel
theorem own_pf_vo : plainFor own_y2 = true := by first | exact plainFor_of_name (show plainName "java/lang/Long" = true by first | (simp [plainName, overriddenIn]; done) | decide +kernel) | decide +kernel
theorem own_ef_vo (m : MethodId) (y0 : Int64) : entryFrame m #[(.long y0)] 3 = mkF m 0 #[.val (.long y0), .second, .unset] [] := by first | (simp [entryFrame, mkF, argsToLocals, Value.category]; done) | rfl
def own_Qvo (Z : State) (x : Int64) (ca : Addr) (h0 : Heap) (n0 : Nat) (v : Option Value) (h : Heap) (L : List Loc) : Prop := ∃ (r : Addr), v = some (.ref r) ∧ Fr n0 L ∧ Keep h0 h [] ∧ Exa Z h r "java/lang/Long" ∧ Fld Z h r "java/lang/Long" "value" "J" (.long x)
set_option maxRecDepth 65536 in
set_option maxHeartbeats 40000000 in
theorem own_rmvo (l : Launch) (Z : State) (a0 : Array Value) (hw : ∀ d ∈ tables_1, d.before a0 Z = true) (ws : List Jvm.Cond) (x : Int64) (ca : Addr) (h0 : Heap) (n0 : Nat) (Z0 : n0 ≤ h0.size) (P0 : Old Z n0 h0) (hS : Sta Z Z.heap "java/lang/Long$LongCache" "cache" "[Ljava/lang/Long;" (.ref ca)) (hC : own_Cache Z ca) :
    MetFree l own_y2 (head1 (Jvm.Cond.code own_y2 jdk_35_method_24_code 3 (some (.object "java/lang/Long")) :: ws) ({ frames := 3, cells := 1, slots := 1, locals := 39 } : Room)) (fun az Uz => az = #[(.long x)] ∧ Z.Warmed39 Uz.vm ∧ Uz.heap = h0) (fun _ _ _ _ _ => True) (fun _ U o U' => ∃ v L, o = .returned v ∧ own_Qvo Z x ca h0 n0 v U'.heap L ∧ FrameEnd U o U' L ({ frames := 3, cells := 1, slots := 1, locals := 39 } : Room).cells ({ frames := 3, cells := 1, slots := 1, locals := 39 } : Room).slots) := by
  refine MetFree.of_bodySF own_pf_vo hisR ?_
  intro p e s m args below meth c s₁ Bd hml0 hP hK
  obtain ⟨rfl, hZ, hh⟩ := hP
  have hx := Bd.exec
  have hby := Bd.bytes
  have hml : c.maxLocals = 3 := hml0
  have hown : s.vm.findClass "java/lang/Long" = some m.cls := findClass_of_methodNamed Bd.named
  have hnm := (name_of_methodNamed Bd.named Bd.method).1
  have hlk : meth.locks = false := BodyLoose.notSynchronized Bd
  have hret := Bd.returns
  have X0 : Stand p l e ({ frames := 3, cells := 1, slots := 1, locals := 39 } : Room) s m #[(.long x)] below meth c s₁ [] 0 0 := Stand.of_body Bd
  have e0 : s₁.heap = h0 := by rw [← hh, Bd.state]; rfl
  have N0 := Fr.nil n0
  show own_E p e below (own_K s (own_Qvo Z x ca h0 n0) ({ frames := 3, cells := 1, slots := 1, locals := 39 } : Room).cells ({ frames := 3, cells := 1, slots := 1, locals := 39 } : Room).slots) s₁ (entryFrame m #[(.long x)] 3)
  refine own_S (mkF m 0 #[.val (.long x), .second, .unset] []) (fun _ k => castTop (own_ef_vo m (x)) k) ?_
  refine own_S (mkF m 3 #[.val (.long x), .second, .unset] [(.int 128)]) (fun _ k => XS.sipush X0.here hx rfl (hb hby d10_0) k) ?_
  refine own_S (mkF m 4 #[.val (.long x), .second, .val (.int 128)] []) (fun _ k => XS.istoreN X0.here hx rfl (hb hby d10_3) rfl (l' := #[.val (.long x), .second, .val (.int 128)]) rfl k) ?_
  refine own_S (mkF m 5 #[.val (.long x), .second, .val (.int 128)] [(.long x)]) (fun _ k => XS.lloadN X0.here hx rfl (hb hby d10_4) rfl k) ?_
  refine own_S (mkF m 8 #[.val (.long x), .second, .val (.int 128)] [(.long (-128)), (.long x)]) (fun _ k => X0.ldc2Long hx hown (mvT hZ (own_g hw (i := 59) rfl)) (g := (mkF m 5 #[.val (.long x), .second, .val (.int 128)] [(.long x)])) rfl (hb hby d10_5) _ k) ?_
  refine own_S (mkF m 9 #[.val (.long x), .second, .val (.int 128)] [(.int (lcmpW x (-128 : Int64)))]) (fun _ k => XS.lcmp X0.here hx rfl (hb hby d10_8) rfl k) ?_
  by_cases h1 : x < (-128 : Int64)
  · -- x < (-128 : Int64)
    refine own_S (mkF m 31 #[.val (.long x), .second, .val (.int 128)] []) (fun _ k => XS.ifYes X0.here hx rfl (pc0 := 9) (pc' := 31) rfl (hb hby d10_9) rfl ((if0 _ _).trans (tlt ((lw_lt x (-128 : Int64)).mpr h1)).1) (by decide) (by decide) k) ?_
    obtain ⟨T1, h1, X1, e1, E1, A1, D1, -, st1⟩ := newO X0 hx hZ hown (own_g hw (i := 102) rfl) (own_g hw (i := 103) rfl) (own_g hw (i := 57) rfl) e0 (g := (mkF m 31 #[.val (.long x), .second, .val (.int 128)] [])) rfl (hb hby d10_31) (by decide) (by decide)
    obtain ⟨r, g1⟩ : ∃ z, z = h0.size := ⟨_, rfl⟩
    rw [← g1] at A1 D1 st1
    have ge_r : n0 ≤ r := Nat.le_trans Z0 (Nat.le_of_eq g1.symm)
    have fr_r : h0.size ≤ r := Nat.le_trans (Keep.refl h0 []).1 (Nat.le_of_eq g1.symm)
    have K1 : Keep h0 h1 [] := (Keep.refl _ _).ext E1
    have F2 := P0.ext E1
    have Z1 : n0 ≤ h1.size := Nat.le_trans Z0 E1.1
    have F3 : Fld Z h1 r "java/lang/Long" "value" "J" (.long (0 : Int64)) := D1 (Or.inr (own_g hw (i := 116) rfl)) (ty := .long) (by decide)
    refine own_S (mkF m 34 #[.val (.long x), .second, .val (.int 128)] [(.ref r)]) st1 ?_
    refine own_S (mkF m 35 #[.val (.long x), .second, .val (.int 128)] [(.ref r), (.ref r)]) (fun _ k => XS.dup X1.here hx rfl (hb hby d10_34) rfl rfl k) ?_
    refine own_S (mkF m 36 #[.val (.long x), .second, .val (.int 128)] [(.long x), (.ref r), (.ref r)]) (fun _ k => XS.lloadN X1.here hx rfl (hb hby d10_35) rfl k) ?_
    obtain ⟨_, _, ⟨T4, L4, k4, n4⟩, -, X4, ⟨Lc4, hQ4, l4, y4, z4⟩, st4⟩ := X1.specialBack hx (y := own_y1) rfl hown (mvT hZ (own_g hw (i := 104) rfl)) (mvT hZ (own_g hw (i := 105) rfl)) (mvT hZ (own_g hw (i := 107) rfl)) (by decide) (backOf (W := 1) (own_rmli l Z a0 hw [] (r) (x) ((.long (0 : Int64))) h1 n0 Z1 A1 F3 ge_r) hZ (own_g hw (i := 107) rfl) (own_g hw (i := 57) rfl) (by decide) (by decide)) (g := (mkF m 36 #[.val (.long x), .second, .val (.int 128)] [(.long x), (.ref r), (.ref r)])) rfl (by rw [hml]; rfl) (Steps.refl _) (a := r) (argsL := [(.long x)]) (rest := [(.ref r)]) (lenOf own_pd__J_V rfl) rfl (by show 2 * 0 + _ ≤ _; exact Nat.le_of_eq rfl) (hb hby d10_36) (fun _ _ => ⟨rfl, e1, (by decide : 1 + 0 ≤ _), (by decide : 1 + 0 ≤ _)⟩)
    dsimp only [Pt.U, Pt.locs, Pt.cells, Pt.slots] at X4 l4 y4 z4 st4 hQ4
    subst l4 y4 z4
    obtain ⟨rfl, N4q, K4q, F5, F6⟩ := hQ4
    have N4 := Fr.app N0 N4q
    refine own_S (mkF m 39 #[.val (.long x), .second, .val (.int 128)] [(.ref r)]) (fun _ k => st4.trans k) ?_
    have K4 : Keep h0 T4.heap [] := K1.trans K4q (allS (Or.inr fr_r) all0)
    have F7 := F2.keep K4q (allS ge_r all0)
    have Z4 : n0 ≤ T4.heap.size := Nat.le_trans Z1 K4q.1
    exact own_ret X4 hx hlk (t := (.object "java/lang/Long")) hret rfl (Or.inr (Or.inr (Or.inr (Or.inr ⟨rfl, rfl, rfl⟩)))) (hb hby d10_39) ⟨r, rfl, N4, K4, F5, F6⟩ (by decide) (by decide)
  · -- not x < (-128 : Int64)
    refine own_S (mkF m 12 #[.val (.long x), .second, .val (.int 128)] []) (fun _ k => XS.ifNo X0.here hx rfl (hb hby d10_9) rfl ((if0 _ _).trans (flt (fun q => h1 ((lw_lt x (-128 : Int64)).mp q))).1) k) ?_
    refine own_S (mkF m 13 #[.val (.long x), .second, .val (.int 128)] [(.long x)]) (fun _ k => XS.lloadN X0.here hx rfl (hb hby d10_12) rfl k) ?_
    refine own_S (mkF m 16 #[.val (.long x), .second, .val (.int 128)] [(.long 127), (.long x)]) (fun _ k => X0.ldc2Long hx hown (mvT hZ (own_g hw (i := 60) rfl)) (g := (mkF m 13 #[.val (.long x), .second, .val (.int 128)] [(.long x)])) rfl (hb hby d10_13) _ k) ?_
    refine own_S (mkF m 17 #[.val (.long x), .second, .val (.int 128)] [(.int (lcmpW x (127 : Int64)))]) (fun _ k => XS.lcmp X0.here hx rfl (hb hby d10_16) rfl k) ?_
    by_cases h2 : (127 : Int64) < x
    · -- (127 : Int64) < x
      refine own_S (mkF m 31 #[.val (.long x), .second, .val (.int 128)] []) (fun _ k => XS.ifYes X0.here hx rfl (pc0 := 17) (pc' := 31) rfl (hb hby d10_17) rfl ((if0 _ _).trans (tlt ((lw_gt x (127 : Int64)).mpr h2)).2.2.1) (by decide) (by decide) k) ?_
      obtain ⟨T8, h8, X8, e8, E8, A8, D8, -, st8⟩ := newO X0 hx hZ hown (own_g hw (i := 102) rfl) (own_g hw (i := 103) rfl) (own_g hw (i := 57) rfl) e0 (g := (mkF m 31 #[.val (.long x), .second, .val (.int 128)] [])) rfl (hb hby d10_31) (by decide) (by decide)
      obtain ⟨r, g8⟩ : ∃ z, z = h0.size := ⟨_, rfl⟩
      rw [← g8] at A8 D8 st8
      have ge_r : n0 ≤ r := Nat.le_trans Z0 (Nat.le_of_eq g8.symm)
      have fr_r : h0.size ≤ r := Nat.le_trans (Keep.refl h0 []).1 (Nat.le_of_eq g8.symm)
      have K8 : Keep h0 h8 [] := (Keep.refl _ _).ext E8
      have F9 := P0.ext E8
      have Z8 : n0 ≤ h8.size := Nat.le_trans Z0 E8.1
      have F10 : Fld Z h8 r "java/lang/Long" "value" "J" (.long (0 : Int64)) := D8 (Or.inr (own_g hw (i := 116) rfl)) (ty := .long) (by decide)
      refine own_S (mkF m 34 #[.val (.long x), .second, .val (.int 128)] [(.ref r)]) st8 ?_
      refine own_S (mkF m 35 #[.val (.long x), .second, .val (.int 128)] [(.ref r), (.ref r)]) (fun _ k => XS.dup X8.here hx rfl (hb hby d10_34) rfl rfl k) ?_
      refine own_S (mkF m 36 #[.val (.long x), .second, .val (.int 128)] [(.long x), (.ref r), (.ref r)]) (fun _ k => XS.lloadN X8.here hx rfl (hb hby d10_35) rfl k) ?_
      obtain ⟨_, _, ⟨T11, L11, k11, n11⟩, -, X11, ⟨Lc11, hQ11, l11, y11, z11⟩, st11⟩ := X8.specialBack hx (y := own_y1) rfl hown (mvT hZ (own_g hw (i := 104) rfl)) (mvT hZ (own_g hw (i := 105) rfl)) (mvT hZ (own_g hw (i := 107) rfl)) (by decide) (backOf (W := 1) (own_rmli l Z a0 hw [] (r) (x) ((.long (0 : Int64))) h8 n0 Z8 A8 F10 ge_r) hZ (own_g hw (i := 107) rfl) (own_g hw (i := 57) rfl) (by decide) (by decide)) (g := (mkF m 36 #[.val (.long x), .second, .val (.int 128)] [(.long x), (.ref r), (.ref r)])) rfl (by rw [hml]; rfl) (Steps.refl _) (a := r) (argsL := [(.long x)]) (rest := [(.ref r)]) (lenOf own_pd__J_V rfl) rfl (by show 2 * 0 + _ ≤ _; exact Nat.le_of_eq rfl) (hb hby d10_36) (fun _ _ => ⟨rfl, e8, (by decide : 1 + 0 ≤ _), (by decide : 1 + 0 ≤ _)⟩)
      dsimp only [Pt.U, Pt.locs, Pt.cells, Pt.slots] at X11 l11 y11 z11 st11 hQ11
      subst l11 y11 z11
      obtain ⟨rfl, N11q, K11q, F12, F13⟩ := hQ11
      have N11 := Fr.app N0 N11q
      refine own_S (mkF m 39 #[.val (.long x), .second, .val (.int 128)] [(.ref r)]) (fun _ k => st11.trans k) ?_
      have K11 : Keep h0 T11.heap [] := K8.trans K11q (allS (Or.inr fr_r) all0)
      have F14 := F9.keep K11q (allS ge_r all0)
      have Z11 : n0 ≤ T11.heap.size := Nat.le_trans Z8 K11q.1
      exact own_ret X11 hx hlk (t := (.object "java/lang/Long")) hret rfl (Or.inr (Or.inr (Or.inr (Or.inr ⟨rfl, rfl, rfl⟩)))) (hb hby d10_39) ⟨r, rfl, N11, K11, F12, F13⟩ (by decide) (by decide)
    · -- not (127 : Int64) < x
      refine own_S (mkF m 20 #[.val (.long x), .second, .val (.int 128)] []) (fun _ k => XS.ifNo X0.here hx rfl (hb hby d10_17) rfl ((if0 _ _).trans (flt (fun q => h2 ((lw_gt x (127 : Int64)).mp q))).2.2.1) k) ?_
      have hS0 := hS.ext P0.2
      obtain ⟨T15, X15, e15, st15⟩ := getS (host := "") X0 hx hZ hown (own_g hw (i := 61) rfl) Via.refl e0 hS0 (g := (mkF m 20 #[.val (.long x), .second, .val (.int 128)] [])) rfl (hb hby d10_20)
      refine own_S (mkF m 23 #[.val (.long x), .second, .val (.int 128)] [(.ref ca)]) st15 ?_
      refine own_S (mkF m 24 #[.val (.long x), .second, .val (.int 128)] [(.long x), (.ref ca)]) (fun _ k => XS.lloadN X15.here hx rfl (hb hby d10_23) rfl k) ?_
      refine own_S (mkF m 25 #[.val (.long x), .second, .val (.int 128)] [(.int ((x).toInt32)), (.ref ca)]) (fun _ k => XS.l2i X15.here hx rfl (hb hby d10_24) rfl k) ?_
      refine own_S (mkF m 28 #[.val (.long x), .second, .val (.int 128)] [(.int 128), (.int ((x).toInt32)), (.ref ca)]) (fun _ k => XS.sipush X15.here hx rfl (hb hby d10_25) k) ?_
      refine own_S (mkF m 29 #[.val (.long x), .second, .val (.int 128)] [(.int (((x).toInt32) + (128 : Int32))), (.ref ca)]) (fun _ k => XS.iadd X15.here hx rfl (hb hby d10_28) rfl k) ?_
      obtain ⟨cl, BX⟩ := hC
      obtain ⟨r, hr, Er, Fr0⟩ := own_look BX P0.2 x h1 h2
      have A := BX.1.ext P0.2
      refine own_S (mkF m 30 #[.val (.long x), .second, .val (.int 128)] [(.ref r)]) (fun _ k => X15.aaload hx (by rw [e15]; exact A.1) (State.isArrayOf_alike hZ.alike A.2.1) rfl A.2.2 (own_inC x h1 h2 BX.2.1) hr (g := (mkF m 29 #[.val (.long x), .second, .val (.int 128)] [(.int (((x).toInt32) + (128 : Int32))), (.ref ca)])) rfl rfl (hb hby d10_29) _ k) ?_
      exact own_ret X15 hx hlk (t := (.object "java/lang/Long")) hret rfl (Or.inr (Or.inr (Or.inr (Or.inr ⟨rfl, rfl, rfl⟩)))) (hb hby d10_30) (by rw [e15]; exact ⟨r, rfl, N0, Keep.refl _ _, Er, Fr0⟩) (by decide) (by decide)
theorem d6_0 : decode jdk_52_method_15_code 0 = .ok (.iload_n 1, 1) := by decide +kernel
theorem d6_1 : decode jdk_52_method_15_code 1 = .ok (.aload_n 0, 1) := by decide +kernel
theorem d6_2 : decode jdk_52_method_15_code 2 = .ok (.arraylength, 1) := by decide +kernel
theorem d6_3 : decode jdk_52_method_15_code 3 = .ok (.isub, 1) := by decide +kernel
theorem d6_4 : decode jdk_52_method_15_code 4 = .ok (.bipush 31, 2) := by decide +kernel
theorem d6_6 : decode jdk_52_method_15_code 6 = .ok (.iushr, 1) := by decide +kernel
theorem d6_7 : decode jdk_52_method_15_code 7 = .ok (.i2b, 1) := by decide +kernel
theorem d6_8 : decode jdk_52_method_15_code 8 = .ok (.ireturn, 1) := by decide +kernel
theorem own_pf_cf : plainFor own_y3 = true := by first | exact plainFor_of_name (show plainName "java/lang/StringUTF16" = true by first | (simp [plainName, overriddenIn]; done) | decide +kernel) | decide +kernel
theorem own_ef_cf (m : MethodId) (y0 : Addr) (y1 : Int32) : entryFrame m #[(.ref y0), (.int y1)] 2 = mkF m 0 #[rv y0, iv y1] [] := by first | (simp [entryFrame, mkF, argsToLocals, Value.category]; done) | rfl
def own_Qcf (Z : State) (ba : Addr) (kb : ClassId) (v0 : Value) (v1 : Value) (h0 : Heap) (n0 : Nat) (v : Option Value) (h : Heap) (L : List Loc) : Prop := v = some (.int (0 : Int32)) ∧ Fr n0 L ∧ h = h0
set_option maxRecDepth 65536 in
set_option maxHeartbeats 40000000 in
theorem own_rmcf (l : Launch) (Z : State) (a0 : Array Value) (hw : ∀ d ∈ tables_1, d.before a0 Z = true) (ws : List Jvm.Cond) (ba : Addr) (kb : ClassId) (v0 : Value) (v1 : Value) (h0 : Heap) (n0 : Nat) (Z0 : n0 ≤ h0.size) (P0 : own_Ar Z h0 ba kb .byte [v0, v1]) :
    MetFree l own_y3 (head1 (Jvm.Cond.code own_y3 jdk_52_method_15_code 2 (some .byte) :: ws) ({ frames := 0, cells := 0, slots := 0, locals := 0 } : Room)) (fun az Uz => az = #[(.ref ba), (.int 2)] ∧ Z.Warmed39 Uz.vm ∧ Uz.heap = h0) (fun _ _ _ _ _ => True) (fun _ U o U' => ∃ v L, o = .returned v ∧ own_Qcf Z ba kb v0 v1 h0 n0 v U'.heap L ∧ FrameEnd U o U' L ({ frames := 0, cells := 0, slots := 0, locals := 0 } : Room).cells ({ frames := 0, cells := 0, slots := 0, locals := 0 } : Room).slots) := by
  refine MetFree.of_bodySF own_pf_cf hisR ?_
  intro p e s m args below meth c s₁ Bd hml0 hP hK
  obtain ⟨rfl, hZ, hh⟩ := hP
  have hx := Bd.exec
  have hby := Bd.bytes
  have hml : c.maxLocals = 2 := hml0
  have hown : s.vm.findClass "java/lang/StringUTF16" = some m.cls := findClass_of_methodNamed Bd.named
  have hnm := (name_of_methodNamed Bd.named Bd.method).1
  have hlk : meth.locks = false := BodyLoose.notSynchronized Bd
  have hret := Bd.returns
  have X0 : Stand p l e ({ frames := 0, cells := 0, slots := 0, locals := 0 } : Room) s m #[(.ref ba), (.int 2)] below meth c s₁ [] 0 0 := Stand.of_body Bd
  have e0 : s₁.heap = h0 := by rw [← hh, Bd.state]; rfl
  have N0 := Fr.nil n0
  show own_E p e below (own_K s (own_Qcf Z ba kb v0 v1 h0 n0) ({ frames := 0, cells := 0, slots := 0, locals := 0 } : Room).cells ({ frames := 0, cells := 0, slots := 0, locals := 0 } : Room).slots) s₁ (entryFrame m #[(.ref ba), (.int 2)] 2)
  refine own_S (mkF m 0 #[rv ba, .val (.int 2)] []) (fun _ k => castTop (own_ef_cf m (ba) ((2 : Int32))) k) ?_
  refine own_S (mkF m 1 #[rv ba, .val (.int 2)] [(.int 2)]) (fun _ k => XS.iloadN X0.here hx rfl (hb hby d6_0) rfl k) ?_
  refine own_S (mkF m 2 #[rv ba, .val (.int 2)] [(.ref ba), (.int 2)]) (fun _ k => XS.aloadN X0.here hx rfl (hb hby d6_1) rfl rfl k) ?_
  refine own_S (mkF m 3 #[rv ba, .val (.int 2)] [(.int 2), (.int 2)]) (fun _ k => own_alen X0 hx hZ e0 P0 (g := (mkF m 2 #[rv ba, .val (.int 2)] [(.ref ba), (.int 2)])) rfl rfl (hb hby d6_2) _ k) ?_
  refine own_S (mkF m 4 #[rv ba, .val (.int 2)] [(.int 0)]) (fun _ k => XS.isub X0.here hx rfl (hb hby d6_3) rfl k) ?_
  refine own_S (mkF m 6 #[rv ba, .val (.int 2)] [(.int 31), (.int 0)]) (fun _ k => XS.bipush X0.here hx rfl (hb hby d6_4) k) ?_
  refine own_S (mkF m 7 #[rv ba, .val (.int 2)] [(.int 0)]) (fun _ k => XS.iushr X0.here hx rfl (hb hby d6_6) rfl k) ?_
  refine own_S (mkF m 8 #[rv ba, .val (.int 2)] [(.int 0)]) (fun _ k => XS.i2b X0.here hx rfl (hb hby d6_7) rfl k) ?_
  exact own_retN X0 hx hlk (t := .byte) hret (by simp) (hb hby d6_8) (by rw [e0]; exact ⟨rfl, N0, rfl⟩) (by decide) (by decide)
theorem d5_0 : decode jdk_52_method_21_code 0 = .ok (.iconst 0, 1) := by decide +kernel
theorem d5_1 : decode jdk_52_method_21_code 1 = .ok (.istore 5, 2) := by decide +kernel
theorem d5_3 : decode jdk_52_method_21_code 3 = .ok (.iload 5, 2) := by decide +kernel
theorem d5_5 : decode jdk_52_method_21_code 5 = .ok (.iload 4, 2) := by decide +kernel
theorem d5_7 : decode jdk_52_method_21_code 7 = .ok (.if_icmp .ge 37, 3) := by decide +kernel
theorem d5_10 : decode jdk_52_method_21_code 10 = .ok (.aload_n 0, 1) := by decide +kernel
theorem d5_11 : decode jdk_52_method_21_code 11 = .ok (.iload_n 1, 1) := by decide +kernel
theorem d5_12 : decode jdk_52_method_21_code 12 = .ok (.caload, 1) := by decide +kernel
theorem d5_13 : decode jdk_52_method_21_code 13 = .ok (.istore 6, 2) := by decide +kernel
theorem d5_15 : decode jdk_52_method_21_code 15 = .ok (.iload 6, 2) := by decide +kernel
theorem d5_17 : decode jdk_52_method_21_code 17 = .ok (.sipush 255, 3) := by decide +kernel
theorem d5_20 : decode jdk_52_method_21_code 20 = .ok (.if_icmp .le 6, 3) := by decide +kernel
theorem d5_26 : decode jdk_52_method_21_code 26 = .ok (.aload_n 2, 1) := by decide +kernel
theorem d5_27 : decode jdk_52_method_21_code 27 = .ok (.iload_n 3, 1) := by decide +kernel
theorem d5_28 : decode jdk_52_method_21_code 28 = .ok (.iload 6, 2) := by decide +kernel
theorem d5_30 : decode jdk_52_method_21_code 30 = .ok (.i2b, 1) := by decide +kernel
theorem d5_31 : decode jdk_52_method_21_code 31 = .ok (.bastore, 1) := by decide +kernel
theorem d5_32 : decode jdk_52_method_21_code 32 = .ok (.iinc 1 1, 3) := by decide +kernel
theorem d5_35 : decode jdk_52_method_21_code 35 = .ok (.iinc 3 1, 3) := by decide +kernel
theorem d5_38 : decode jdk_52_method_21_code 38 = .ok (.iinc 5 1, 3) := by decide +kernel
theorem d5_41 : decode jdk_52_method_21_code 41 = .ok (.goto (-38), 3) := by decide +kernel
theorem d5_44 : decode jdk_52_method_21_code 44 = .ok (.iload 4, 2) := by decide +kernel
theorem d5_46 : decode jdk_52_method_21_code 46 = .ok (.ireturn, 1) := by decide +kernel
theorem own_pf_c2 : plainFor own_y4 = true := by first | exact plainFor_of_name (show plainName "java/lang/StringUTF16" = true by first | (simp [plainName, overriddenIn]; done) | decide +kernel) | decide +kernel
theorem own_ef_c2 (m : MethodId) (y0 : Addr) (y1 : Int32) (y2 : Addr) (y3 : Int32) (y4 : Int32) : entryFrame m #[(.ref y0), (.int y1), (.ref y2), (.int y3), (.int y4)] 7 = mkF m 0 #[rv y0, iv y1, rv y2, iv y3, iv y4, .unset, .unset] [] := by first | (simp [entryFrame, mkF, argsToLocals, Value.category]; done) | rfl
def own_Qc2 (Z : State) (ca : Addr) (ba : Addr) (kc : ClassId) (kb : ClassId) (c0 : Int32) (c1 : Int32) (h0 : Heap) (n0 : Nat) (v : Option Value) (h : Heap) (L : List Loc) : Prop := v = some (.int (2 : Int32)) ∧ Fr n0 L ∧ Keep h0 h [ba] ∧ own_Ar Z h ba kb .byte [(.int (nar .byte ((c0).toInt8.toInt32))), (.int (nar .byte ((c1).toInt8.toInt32)))]
set_option maxRecDepth 65536 in
set_option maxHeartbeats 40000000 in
theorem own_rmc2 (l : Launch) (Z : State) (a0 : Array Value) (hw : ∀ d ∈ tables_1, d.before a0 Z = true) (ws : List Jvm.Cond) (ca : Addr) (ba : Addr) (kc : ClassId) (kb : ClassId) (c0 : Int32) (c1 : Int32) (h0 : Heap) (n0 : Nat) (Z0 : n0 ≤ h0.size) (P0 : own_Ar Z h0 ca kc .char [(.int c0), (.int c1)]) (P1 : own_Ar Z h0 ba kb .byte [(.int (0 : Int32)), (.int (0 : Int32))]) (G_ba : n0 ≤ ba) (NE_ca_ba : ca ≠ ba) (p0 : ¬ ((255 : Int32) < c0)) (p1 : ¬ ((255 : Int32) < c1)) :
    MetFree l own_y4 (head1 (Jvm.Cond.code own_y4 jdk_52_method_21_code 7 (some .int) :: ws) ({ frames := 0, cells := 0, slots := 0, locals := 0 } : Room)) (fun az Uz => az = #[(.ref ca), (.int 0), (.ref ba), (.int 0), (.int 2)] ∧ Z.Warmed39 Uz.vm ∧ Uz.heap = h0) (fun _ _ _ _ _ => True) (fun _ U o U' => ∃ v L, o = .returned v ∧ own_Qc2 Z ca ba kc kb c0 c1 h0 n0 v U'.heap L ∧ FrameEnd U o U' L ({ frames := 0, cells := 0, slots := 0, locals := 0 } : Room).cells ({ frames := 0, cells := 0, slots := 0, locals := 0 } : Room).slots) := by
  refine MetFree.of_bodySF own_pf_c2 hisR ?_
  intro p e s m args below meth c s₁ Bd hml0 hP hK
  obtain ⟨rfl, hZ, hh⟩ := hP
  have hx := Bd.exec
  have hby := Bd.bytes
  have hml : c.maxLocals = 7 := hml0
  have hown : s.vm.findClass "java/lang/StringUTF16" = some m.cls := findClass_of_methodNamed Bd.named
  have hnm := (name_of_methodNamed Bd.named Bd.method).1
  have hlk : meth.locks = false := BodyLoose.notSynchronized Bd
  have hret := Bd.returns
  have X0 : Stand p l e ({ frames := 0, cells := 0, slots := 0, locals := 0 } : Room) s m #[(.ref ca), (.int 0), (.ref ba), (.int 0), (.int 2)] below meth c s₁ [] 0 0 := Stand.of_body Bd
  have e0 : s₁.heap = h0 := by rw [← hh, Bd.state]; rfl
  have N0 := Fr.nil n0
  show own_E p e below (own_K s (own_Qc2 Z ca ba kc kb c0 c1 h0 n0) ({ frames := 0, cells := 0, slots := 0, locals := 0 } : Room).cells ({ frames := 0, cells := 0, slots := 0, locals := 0 } : Room).slots) s₁ (entryFrame m #[(.ref ca), (.int 0), (.ref ba), (.int 0), (.int 2)] 7)
  refine own_S (mkF m 0 #[rv ca, .val (.int 0), rv ba, .val (.int 0), .val (.int 2), .unset, .unset] []) (fun _ k => castTop (own_ef_c2 m (ca) ((0 : Int32)) (ba) ((0 : Int32)) ((2 : Int32))) k) ?_
  refine own_S (mkF m 1 #[rv ca, .val (.int 0), rv ba, .val (.int 0), .val (.int 2), .unset, .unset] [(.int 0)]) (fun _ k => XS.iconst X0.here hx rfl (hb hby d5_0) k) ?_
  refine own_S (mkF m 3 #[rv ca, .val (.int 0), rv ba, .val (.int 0), .val (.int 2), .val (.int 0), .unset] []) (fun _ k => XS.istore X0.here hx rfl (hb hby d5_1) rfl (l' := #[rv ca, .val (.int 0), rv ba, .val (.int 0), .val (.int 2), .val (.int 0), .unset]) rfl k) ?_
  refine own_S (mkF m 5 #[rv ca, .val (.int 0), rv ba, .val (.int 0), .val (.int 2), .val (.int 0), .unset] [(.int 0)]) (fun _ k => XS.iload X0.here hx rfl (hb hby d5_3) rfl k) ?_
  refine own_S (mkF m 7 #[rv ca, .val (.int 0), rv ba, .val (.int 0), .val (.int 2), .val (.int 0), .unset] [(.int 2), (.int 0)]) (fun _ k => XS.iload X0.here hx rfl (hb hby d5_5) rfl k) ?_
  have hc1 : (0 : Int32) < (2 : Int32) := by decide
  refine own_S (mkF m 10 #[rv ca, .val (.int 0), rv ba, .val (.int 0), .val (.int 2), .val (.int 0), .unset] []) (fun _ k => XS.icmpNo X0.here hx rfl (hb hby d5_7) rfl (tlt hc1).2.1 k) ?_
  refine own_S (mkF m 11 #[rv ca, .val (.int 0), rv ba, .val (.int 0), .val (.int 2), .val (.int 0), .unset] [(.ref ca)]) (fun _ k => XS.aloadN X0.here hx rfl (hb hby d5_10) rfl rfl k) ?_
  refine own_S (mkF m 12 #[rv ca, .val (.int 0), rv ba, .val (.int 0), .val (.int 2), .val (.int 0), .unset] [(.int 0), (.ref ca)]) (fun _ k => XS.iloadN X0.here hx rfl (hb hby d5_11) rfl k) ?_
  refine own_S (mkF m 13 #[rv ca, .val (.int 0), rv ba, .val (.int 0), .val (.int 2), .val (.int 0), .unset] [(.int c0)]) (fun _ k => own_ldC X0 hx hZ e0 P0 (by decide) rfl (g := (mkF m 12 #[rv ca, .val (.int 0), rv ba, .val (.int 0), .val (.int 2), .val (.int 0), .unset] [(.int 0), (.ref ca)])) rfl rfl (hb hby d5_12) _ k) ?_
  refine own_S (mkF m 15 #[rv ca, .val (.int 0), rv ba, .val (.int 0), .val (.int 2), .val (.int 0), iv c0] []) (fun _ k => XS.istore X0.here hx rfl (hb hby d5_13) rfl (l' := #[rv ca, .val (.int 0), rv ba, .val (.int 0), .val (.int 2), .val (.int 0), iv c0]) rfl k) ?_
  refine own_S (mkF m 17 #[rv ca, .val (.int 0), rv ba, .val (.int 0), .val (.int 2), .val (.int 0), iv c0] [(.int c0)]) (fun _ k => XS.iload X0.here hx rfl (hb hby d5_15) rfl k) ?_
  refine own_S (mkF m 20 #[rv ca, .val (.int 0), rv ba, .val (.int 0), .val (.int 2), .val (.int 0), iv c0] [(.int 255), (.int c0)]) (fun _ k => XS.sipush X0.here hx rfl (hb hby d5_17) k) ?_
  have hc2 : ¬ ((255 : Int32) < c0) := p0
  refine own_S (mkF m 26 #[rv ca, .val (.int 0), rv ba, .val (.int 0), .val (.int 2), .val (.int 0), iv c0] []) (fun _ k => XS.icmpYes X0.here hx rfl (pc0 := 20) (pc' := 26) rfl (hb hby d5_20) rfl (flt hc2).2.2.2 (by decide) (by decide) k) ?_
  refine own_S (mkF m 27 #[rv ca, .val (.int 0), rv ba, .val (.int 0), .val (.int 2), .val (.int 0), iv c0] [(.ref ba)]) (fun _ k => XS.aloadN X0.here hx rfl (hb hby d5_26) rfl rfl k) ?_
  refine own_S (mkF m 28 #[rv ca, .val (.int 0), rv ba, .val (.int 0), .val (.int 2), .val (.int 0), iv c0] [(.int 0), (.ref ba)]) (fun _ k => XS.iloadN X0.here hx rfl (hb hby d5_27) rfl k) ?_
  refine own_S (mkF m 30 #[rv ca, .val (.int 0), rv ba, .val (.int 0), .val (.int 2), .val (.int 0), iv c0] [(.int c0), (.int 0), (.ref ba)]) (fun _ k => XS.iload X0.here hx rfl (hb hby d5_28) rfl k) ?_
  refine own_S (mkF m 31 #[rv ca, .val (.int 0), rv ba, .val (.int 0), .val (.int 2), .val (.int 0), iv c0] [(.int ((c0).toInt8.toInt32)), (.int 0), (.ref ba)]) (fun _ k => XS.i2b X0.here hx rfl (hb hby d5_30) rfl k) ?_
  obtain ⟨T3, h3, X3, e3, W3, AR3, st3⟩ := own_stB (j := (0 : Int32)) X0 hx hZ e0 P1 (by decide) (show (0 : Nat) < 2 from by decide) (g := (mkF m 31 #[rv ca, .val (.int 0), rv ba, .val (.int 0), .val (.int 2), .val (.int 0), iv c0] [(.int ((c0).toInt8.toInt32)), (.int 0), (.ref ba)])) rfl rfl (hb hby d5_31)
  refine own_S (mkF m 32 #[rv ca, .val (.int 0), rv ba, .val (.int 0), .val (.int 2), .val (.int 0), iv c0] []) st3 ?_
  have F4 := P0.other W3 NE_ca_ba
  have F5 : own_Ar Z h3 ba kb .byte [(.int (nar .byte ((c0).toInt8.toInt32))), (.int (0 : Int32))] := AR3
  have N3 := Fr.snoc X3 N0 G_ba
  have Z3 : n0 ≤ h3.size := by rw [Wr.size W3]; exact Z0
  have K3 : Keep h0 h3 [ba] := (Keep.refl _ _).wr W3 (Or.inl (List.mem_of_getElem? (i := 0) rfl))
  refine own_S (mkF m 35 #[rv ca, .val (.int 1), rv ba, .val (.int 0), .val (.int 2), .val (.int 0), iv c0] []) (fun _ k => XS.iinc X3.here hx rfl (hb hby d5_32) rfl (l' := #[rv ca, .val (.int 1), rv ba, .val (.int 0), .val (.int 2), .val (.int 0), iv c0]) rfl k) ?_
  refine own_S (mkF m 38 #[rv ca, .val (.int 1), rv ba, .val (.int 1), .val (.int 2), .val (.int 0), iv c0] []) (fun _ k => XS.iinc X3.here hx rfl (hb hby d5_35) rfl (l' := #[rv ca, .val (.int 1), rv ba, .val (.int 1), .val (.int 2), .val (.int 0), iv c0]) rfl k) ?_
  refine own_S (mkF m 41 #[rv ca, .val (.int 1), rv ba, .val (.int 1), .val (.int 2), .val (.int 1), iv c0] []) (fun _ k => XS.iinc X3.here hx rfl (hb hby d5_38) rfl (l' := #[rv ca, .val (.int 1), rv ba, .val (.int 1), .val (.int 2), .val (.int 1), iv c0]) rfl k) ?_
  refine own_S (mkF m 3 #[rv ca, .val (.int 1), rv ba, .val (.int 1), .val (.int 2), .val (.int 1), iv c0] []) (fun _ k => XS.goto X3.here hx rfl (pc0 := 41) (pc' := 3) rfl (hb hby d5_41) (by decide) (by decide) k) ?_
  refine own_S (mkF m 5 #[rv ca, .val (.int 1), rv ba, .val (.int 1), .val (.int 2), .val (.int 1), iv c0] [(.int 1)]) (fun _ k => XS.iload X3.here hx rfl (hb hby d5_3) rfl k) ?_
  refine own_S (mkF m 7 #[rv ca, .val (.int 1), rv ba, .val (.int 1), .val (.int 2), .val (.int 1), iv c0] [(.int 2), (.int 1)]) (fun _ k => XS.iload X3.here hx rfl (hb hby d5_5) rfl k) ?_
  have hc6 : (1 : Int32) < (2 : Int32) := by decide
  refine own_S (mkF m 10 #[rv ca, .val (.int 1), rv ba, .val (.int 1), .val (.int 2), .val (.int 1), iv c0] []) (fun _ k => XS.icmpNo X3.here hx rfl (hb hby d5_7) rfl (tlt hc6).2.1 k) ?_
  refine own_S (mkF m 11 #[rv ca, .val (.int 1), rv ba, .val (.int 1), .val (.int 2), .val (.int 1), iv c0] [(.ref ca)]) (fun _ k => XS.aloadN X3.here hx rfl (hb hby d5_10) rfl rfl k) ?_
  refine own_S (mkF m 12 #[rv ca, .val (.int 1), rv ba, .val (.int 1), .val (.int 2), .val (.int 1), iv c0] [(.int 1), (.ref ca)]) (fun _ k => XS.iloadN X3.here hx rfl (hb hby d5_11) rfl k) ?_
  refine own_S (mkF m 13 #[rv ca, .val (.int 1), rv ba, .val (.int 1), .val (.int 2), .val (.int 1), iv c0] [(.int c1)]) (fun _ k => own_ldC X3 hx hZ e3 F4 (by decide) rfl (g := (mkF m 12 #[rv ca, .val (.int 1), rv ba, .val (.int 1), .val (.int 2), .val (.int 1), iv c0] [(.int 1), (.ref ca)])) rfl rfl (hb hby d5_12) _ k) ?_
  refine own_S (mkF m 15 #[rv ca, .val (.int 1), rv ba, .val (.int 1), .val (.int 2), .val (.int 1), iv c1] []) (fun _ k => XS.istore X3.here hx rfl (hb hby d5_13) rfl (l' := #[rv ca, .val (.int 1), rv ba, .val (.int 1), .val (.int 2), .val (.int 1), iv c1]) rfl k) ?_
  refine own_S (mkF m 17 #[rv ca, .val (.int 1), rv ba, .val (.int 1), .val (.int 2), .val (.int 1), iv c1] [(.int c1)]) (fun _ k => XS.iload X3.here hx rfl (hb hby d5_15) rfl k) ?_
  refine own_S (mkF m 20 #[rv ca, .val (.int 1), rv ba, .val (.int 1), .val (.int 2), .val (.int 1), iv c1] [(.int 255), (.int c1)]) (fun _ k => XS.sipush X3.here hx rfl (hb hby d5_17) k) ?_
  have hc7 : ¬ ((255 : Int32) < c1) := p1
  refine own_S (mkF m 26 #[rv ca, .val (.int 1), rv ba, .val (.int 1), .val (.int 2), .val (.int 1), iv c1] []) (fun _ k => XS.icmpYes X3.here hx rfl (pc0 := 20) (pc' := 26) rfl (hb hby d5_20) rfl (flt hc7).2.2.2 (by decide) (by decide) k) ?_
  refine own_S (mkF m 27 #[rv ca, .val (.int 1), rv ba, .val (.int 1), .val (.int 2), .val (.int 1), iv c1] [(.ref ba)]) (fun _ k => XS.aloadN X3.here hx rfl (hb hby d5_26) rfl rfl k) ?_
  refine own_S (mkF m 28 #[rv ca, .val (.int 1), rv ba, .val (.int 1), .val (.int 2), .val (.int 1), iv c1] [(.int 1), (.ref ba)]) (fun _ k => XS.iloadN X3.here hx rfl (hb hby d5_27) rfl k) ?_
  refine own_S (mkF m 30 #[rv ca, .val (.int 1), rv ba, .val (.int 1), .val (.int 2), .val (.int 1), iv c1] [(.int c1), (.int 1), (.ref ba)]) (fun _ k => XS.iload X3.here hx rfl (hb hby d5_28) rfl k) ?_
  refine own_S (mkF m 31 #[rv ca, .val (.int 1), rv ba, .val (.int 1), .val (.int 2), .val (.int 1), iv c1] [(.int ((c1).toInt8.toInt32)), (.int 1), (.ref ba)]) (fun _ k => XS.i2b X3.here hx rfl (hb hby d5_30) rfl k) ?_
  obtain ⟨T8, h8, X8, e8, W8, AR8, st8⟩ := own_stB (j := (1 : Int32)) X3 hx hZ e3 F5 (by decide) (show (1 : Nat) < 2 from by decide) (g := (mkF m 31 #[rv ca, .val (.int 1), rv ba, .val (.int 1), .val (.int 2), .val (.int 1), iv c1] [(.int ((c1).toInt8.toInt32)), (.int 1), (.ref ba)])) rfl rfl (hb hby d5_31)
  refine own_S (mkF m 32 #[rv ca, .val (.int 1), rv ba, .val (.int 1), .val (.int 2), .val (.int 1), iv c1] []) st8 ?_
  have F9 := F4.other W8 NE_ca_ba
  have F10 : own_Ar Z h8 ba kb .byte [(.int (nar .byte ((c0).toInt8.toInt32))), (.int (nar .byte ((c1).toInt8.toInt32)))] := AR8
  have N8 := Fr.snoc X8 N3 G_ba
  have Z8 : n0 ≤ h8.size := by rw [Wr.size W8]; exact Z3
  have K8 : Keep h0 h8 [ba] := K3.wr W8 (Or.inl (List.mem_of_getElem? (i := 0) rfl))
  refine own_S (mkF m 35 #[rv ca, .val (.int 2), rv ba, .val (.int 1), .val (.int 2), .val (.int 1), iv c1] []) (fun _ k => XS.iinc X8.here hx rfl (hb hby d5_32) rfl (l' := #[rv ca, .val (.int 2), rv ba, .val (.int 1), .val (.int 2), .val (.int 1), iv c1]) rfl k) ?_
  refine own_S (mkF m 38 #[rv ca, .val (.int 2), rv ba, .val (.int 2), .val (.int 2), .val (.int 1), iv c1] []) (fun _ k => XS.iinc X8.here hx rfl (hb hby d5_35) rfl (l' := #[rv ca, .val (.int 2), rv ba, .val (.int 2), .val (.int 2), .val (.int 1), iv c1]) rfl k) ?_
  refine own_S (mkF m 41 #[rv ca, .val (.int 2), rv ba, .val (.int 2), .val (.int 2), .val (.int 2), iv c1] []) (fun _ k => XS.iinc X8.here hx rfl (hb hby d5_38) rfl (l' := #[rv ca, .val (.int 2), rv ba, .val (.int 2), .val (.int 2), .val (.int 2), iv c1]) rfl k) ?_
  refine own_S (mkF m 3 #[rv ca, .val (.int 2), rv ba, .val (.int 2), .val (.int 2), .val (.int 2), iv c1] []) (fun _ k => XS.goto X8.here hx rfl (pc0 := 41) (pc' := 3) rfl (hb hby d5_41) (by decide) (by decide) k) ?_
  refine own_S (mkF m 5 #[rv ca, .val (.int 2), rv ba, .val (.int 2), .val (.int 2), .val (.int 2), iv c1] [(.int 2)]) (fun _ k => XS.iload X8.here hx rfl (hb hby d5_3) rfl k) ?_
  refine own_S (mkF m 7 #[rv ca, .val (.int 2), rv ba, .val (.int 2), .val (.int 2), .val (.int 2), iv c1] [(.int 2), (.int 2)]) (fun _ k => XS.iload X8.here hx rfl (hb hby d5_5) rfl k) ?_
  have hc11 : ¬ ((2 : Int32) < (2 : Int32)) := by decide
  refine own_S (mkF m 44 #[rv ca, .val (.int 2), rv ba, .val (.int 2), .val (.int 2), .val (.int 2), iv c1] []) (fun _ k => XS.icmpYes X8.here hx rfl (pc0 := 7) (pc' := 44) rfl (hb hby d5_7) rfl (flt hc11).2.1 (by decide) (by decide) k) ?_
  refine own_S (mkF m 46 #[rv ca, .val (.int 2), rv ba, .val (.int 2), .val (.int 2), .val (.int 2), iv c1] [(.int 2)]) (fun _ k => XS.iload X8.here hx rfl (hb hby d5_44) rfl k) ?_
  exact own_ret X8 hx hlk (t := .int) hret rfl (Or.inl ⟨rfl, Or.inl rfl, _, rfl⟩) (hb hby d5_46) (by rw [e8]; exact ⟨rfl, N8, K8, F10⟩) (by decide) (by decide)
theorem d4_0 : decode jdk_52_method_16_code 0 = .ok (.iload_n 2, 1) := by decide +kernel
theorem d4_1 : decode jdk_52_method_16_code 1 = .ok (.newarray .byte, 2) := by decide +kernel
theorem d4_3 : decode jdk_52_method_16_code 3 = .ok (.astore_n 3, 1) := by decide +kernel
theorem d4_4 : decode jdk_52_method_16_code 4 = .ok (.aload_n 0, 1) := by decide +kernel
theorem d4_5 : decode jdk_52_method_16_code 5 = .ok (.iload_n 1, 1) := by decide +kernel
theorem d4_6 : decode jdk_52_method_16_code 6 = .ok (.aload_n 3, 1) := by decide +kernel
theorem d4_7 : decode jdk_52_method_16_code 7 = .ok (.iconst 0, 1) := by decide +kernel
theorem d4_8 : decode jdk_52_method_16_code 8 = .ok (.iload_n 2, 1) := by decide +kernel
theorem d4_9 : decode jdk_52_method_16_code 9 = .ok (.invokestatic 115, 3) := by decide +kernel
theorem d4_12 : decode jdk_52_method_16_code 12 = .ok (.istore 4, 2) := by decide +kernel
theorem d4_14 : decode jdk_52_method_16_code 14 = .ok (.iload 4, 2) := by decide +kernel
theorem d4_16 : decode jdk_52_method_16_code 16 = .ok (.iload_n 2, 1) := by decide +kernel
theorem d4_17 : decode jdk_52_method_16_code 17 = .ok (.if_icmp .eq 40, 3) := by decide +kernel
theorem d4_57 : decode jdk_52_method_16_code 57 = .ok (.aload_n 3, 1) := by decide +kernel
theorem d4_58 : decode jdk_52_method_16_code 58 = .ok (.areturn, 1) := by decide +kernel
theorem own_pd___CI_BII_I : parseMethodDescriptor "([CI[BII)I" = some ⟨[(.array .char), .int, (.array .byte), .int, .int], (some .int)⟩ := by decide +kernel
theorem own_pf_c1 : plainFor own_y5 = true := by first | exact plainFor_of_name (show plainName "java/lang/StringUTF16" = true by first | (simp [plainName, overriddenIn]; done) | decide +kernel) | decide +kernel
theorem own_ef_c1 (m : MethodId) (y0 : Addr) (y1 : Int32) (y2 : Int32) : entryFrame m #[(.ref y0), (.int y1), (.int y2)] 6 = mkF m 0 #[rv y0, iv y1, iv y2, .unset, .unset, .unset] [] := by first | (simp [entryFrame, mkF, argsToLocals, Value.category]; done) | rfl
def own_Qc1 (Z : State) (ca : Addr) (kc : ClassId) (c0 : Int32) (c1 : Int32) (h0 : Heap) (n0 : Nat) (v : Option Value) (h : Heap) (L : List Loc) : Prop := ∃ (ba : Addr) (kb : ClassId), v = some (.ref ba) ∧ Fr n0 L ∧ Keep h0 h [] ∧ own_Ar Z h ba kb .byte [(.int (nar .byte ((c0).toInt8.toInt32))), (.int (nar .byte ((c1).toInt8.toInt32)))] ∧ h0.size ≤ ba
set_option maxRecDepth 65536 in
set_option maxHeartbeats 40000000 in
theorem own_rmc1 (l : Launch) (Z : State) (a0 : Array Value) (hw : ∀ d ∈ tables_1, d.before a0 Z = true) (ws : List Jvm.Cond) (ca : Addr) (kc : ClassId) (c0 : Int32) (c1 : Int32) (h0 : Heap) (n0 : Nat) (Z0 : n0 ≤ h0.size) (P0 : own_Ar Z h0 ca kc .char [(.int c0), (.int c1)]) (p0 : ¬ ((255 : Int32) < c0)) (p1 : ¬ ((255 : Int32) < c1)) :
    MetFree l own_y5 (head1 (Jvm.Cond.code own_y5 jdk_52_method_16_code 6 (some (.array .byte)) :: ws) ({ frames := 1, cells := 1, slots := 2, locals := 18 } : Room)) (fun az Uz => az = #[(.ref ca), (.int 0), (.int 2)] ∧ Z.Warmed39 Uz.vm ∧ Uz.heap = h0) (fun _ _ _ _ _ => True) (fun _ U o U' => ∃ v L, o = .returned v ∧ own_Qc1 Z ca kc c0 c1 h0 n0 v U'.heap L ∧ FrameEnd U o U' L ({ frames := 1, cells := 1, slots := 2, locals := 18 } : Room).cells ({ frames := 1, cells := 1, slots := 2, locals := 18 } : Room).slots) := by
  refine MetFree.of_bodySF own_pf_c1 hisR ?_
  intro p e s m args below meth c s₁ Bd hml0 hP hK
  obtain ⟨rfl, hZ, hh⟩ := hP
  have hx := Bd.exec
  have hby := Bd.bytes
  have hml : c.maxLocals = 6 := hml0
  have hown : s.vm.findClass "java/lang/StringUTF16" = some m.cls := findClass_of_methodNamed Bd.named
  have hnm := (name_of_methodNamed Bd.named Bd.method).1
  have hlk : meth.locks = false := BodyLoose.notSynchronized Bd
  have hret := Bd.returns
  have X0 : Stand p l e ({ frames := 1, cells := 1, slots := 2, locals := 18 } : Room) s m #[(.ref ca), (.int 0), (.int 2)] below meth c s₁ [] 0 0 := Stand.of_body Bd
  have e0 : s₁.heap = h0 := by rw [← hh, Bd.state]; rfl
  have N0 := Fr.nil n0
  show own_E p e below (own_K s (own_Qc1 Z ca kc c0 c1 h0 n0) ({ frames := 1, cells := 1, slots := 2, locals := 18 } : Room).cells ({ frames := 1, cells := 1, slots := 2, locals := 18 } : Room).slots) s₁ (entryFrame m #[(.ref ca), (.int 0), (.int 2)] 6)
  refine own_S (mkF m 0 #[rv ca, .val (.int 0), .val (.int 2), .unset, .unset, .unset] []) (fun _ k => castTop (own_ef_c1 m (ca) ((0 : Int32)) ((2 : Int32))) k) ?_
  refine own_S (mkF m 1 #[rv ca, .val (.int 0), .val (.int 2), .unset, .unset, .unset] [(.int 2)]) (fun _ k => XS.iloadN X0.here hx rfl (hb hby d4_0) rfl k) ?_
  obtain ⟨T1, h1, cA1, X1, e1, E1, A1, st1⟩ := newP X0 hx hZ (own_g hw (i := 20) rfl) e0 (g := (mkF m 1 #[rv ca, .val (.int 0), .val (.int 2), .unset, .unset, .unset] [(.int 2)])) rfl (hb hby d4_1) rfl (by decide) (cap := 2) (by decide) (by decide) (by decide) (by decide)
  obtain ⟨ba, g1⟩ : ∃ z, z = h0.size := ⟨_, rfl⟩
  rw [← g1] at A1 st1
  have n2 : ca ≠ ba := Nat.ne_of_lt (Nat.lt_of_lt_of_eq P0.lt g1.symm)
  have ge_ba : n0 ≤ ba := Nat.le_trans Z0 (Nat.le_of_eq g1.symm)
  have fr_ba : h0.size ≤ ba := Nat.le_trans (Keep.refl h0 []).1 (Nat.le_of_eq g1.symm)
  have K1 : Keep h0 h1 [] := (Keep.refl _ _).ext E1
  have F3 := P0.ext E1
  have Z1 : n0 ≤ h1.size := Nat.le_trans Z0 E1.1
  have F4 : own_Ar Z h1 ba cA1 .byte [(.int (0 : Int32)), (.int (0 : Int32))] := own_Ar.new A1 rfl
  refine own_S (mkF m 3 #[rv ca, .val (.int 0), .val (.int 2), .unset, .unset, .unset] [(.ref ba)]) st1 ?_
  refine own_S (mkF m 4 #[rv ca, .val (.int 0), .val (.int 2), rv ba, .unset, .unset] []) (fun _ k => XS.astoreN X1.here hx rfl (hb hby d4_3) rfl rfl (l' := #[rv ca, .val (.int 0), .val (.int 2), rv ba, .unset, .unset]) rfl k) ?_
  refine own_S (mkF m 5 #[rv ca, .val (.int 0), .val (.int 2), rv ba, .unset, .unset] [(.ref ca)]) (fun _ k => XS.aloadN X1.here hx rfl (hb hby d4_4) rfl rfl k) ?_
  refine own_S (mkF m 6 #[rv ca, .val (.int 0), .val (.int 2), rv ba, .unset, .unset] [(.int 0), (.ref ca)]) (fun _ k => XS.iloadN X1.here hx rfl (hb hby d4_5) rfl k) ?_
  refine own_S (mkF m 7 #[rv ca, .val (.int 0), .val (.int 2), rv ba, .unset, .unset] [(.ref ba), (.int 0), (.ref ca)]) (fun _ k => XS.aloadN X1.here hx rfl (hb hby d4_6) rfl rfl k) ?_
  refine own_S (mkF m 8 #[rv ca, .val (.int 0), .val (.int 2), rv ba, .unset, .unset] [(.int 0), (.ref ba), (.int 0), (.ref ca)]) (fun _ k => XS.iconst X1.here hx rfl (hb hby d4_7) k) ?_
  refine own_S (mkF m 9 #[rv ca, .val (.int 0), .val (.int 2), rv ba, .unset, .unset] [(.int 2), (.int 0), (.ref ba), (.int 0), (.ref ca)]) (fun _ k => XS.iloadN X1.here hx rfl (hb hby d4_8) rfl k) ?_
  obtain ⟨_, _, ⟨T5, L5, k5, n5⟩, -, X5, ⟨Lc5, hQ5, l5, y5, z5⟩, st5⟩ := Jvm.LawKit.callS X1 hx (y := own_y4) hown (mvT hZ (own_g hw (i := 21) rfl)) (mvT hZ (own_g hw (i := 22) rfl)) (mvT hZ (own_g hw (i := 18) rfl)) (mvT hZ (own_g hw (i := 23) rfl)) (by decide) (backOf (W := 0) (own_rmc2 l Z a0 hw [] (ca) (ba) (kc) (cA1) (c0) (c1) h1 n0 Z1 F3 F4 ge_ba n2 p0 p1) hZ (own_g hw (i := 23) rfl) (own_g hw (i := 18) rfl) (by decide) (by decide)) (g := (mkF m 9 #[rv ca, .val (.int 0), .val (.int 2), rv ba, .unset, .unset] [(.int 2), (.int 0), (.ref ba), (.int 0), (.ref ca)])) rfl (by rw [hml]; rfl) (argsL := [(.ref ca), (.int 0), (.ref ba), (.int 0), (.int 2)]) (rest := []) (lenOf own_pd___CI_BII_I rfl) rfl (by show 2 * 0 + _ ≤ _; exact Nat.le_of_eq rfl) (hb hby d4_9) (fun _ _ => ⟨rfl, e1, (by decide : 1 + 0 ≤ _), (by decide : 2 + 0 ≤ _)⟩)
  dsimp only [Pt.U, Pt.locs, Pt.cells, Pt.slots] at X5 l5 y5 z5 st5 hQ5
  subst l5 y5 z5
  obtain ⟨rfl, N5q, K5q, F6⟩ := hQ5
  have N5 := Fr.app N0 N5q
  refine own_S (mkF m 12 #[rv ca, .val (.int 0), .val (.int 2), rv ba, .unset, .unset] [(.int 2)]) (fun _ k => st5 _ k) ?_
  have K5 : Keep h0 T5.heap [] := K1.trans K5q (allS (Or.inr fr_ba) all0)
  have F7 := F3.keep K5q (ninS n2 nin0)
  have Z5 : n0 ≤ T5.heap.size := Nat.le_trans Z1 K5q.1
  refine own_S (mkF m 14 #[rv ca, .val (.int 0), .val (.int 2), rv ba, .val (.int 2), .unset] []) (fun _ k => XS.istore X5.here hx rfl (hb hby d4_12) rfl (l' := #[rv ca, .val (.int 0), .val (.int 2), rv ba, .val (.int 2), .unset]) rfl k) ?_
  refine own_S (mkF m 16 #[rv ca, .val (.int 0), .val (.int 2), rv ba, .val (.int 2), .unset] [(.int 2)]) (fun _ k => XS.iload X5.here hx rfl (hb hby d4_14) rfl k) ?_
  refine own_S (mkF m 17 #[rv ca, .val (.int 0), .val (.int 2), rv ba, .val (.int 2), .unset] [(.int 2), (.int 2)]) (fun _ k => XS.iloadN X5.here hx rfl (hb hby d4_16) rfl k) ?_
  have hc8 : (2 : Int32) = (2 : Int32) := by decide
  refine own_S (mkF m 57 #[rv ca, .val (.int 0), .val (.int 2), rv ba, .val (.int 2), .unset] []) (fun _ k => XS.icmpYes X5.here hx rfl (pc0 := 17) (pc' := 57) rfl (hb hby d4_17) rfl (teq hc8).1 (by decide) (by decide) k) ?_
  refine own_S (mkF m 58 #[rv ca, .val (.int 0), .val (.int 2), rv ba, .val (.int 2), .unset] [(.ref ba)]) (fun _ k => XS.aloadN X5.here hx rfl (hb hby d4_57) rfl rfl k) ?_
  exact own_ret X5 hx hlk (t := (.array .byte)) hret rfl (Or.inr (Or.inr (Or.inr (Or.inr ⟨rfl, rfl, rfl⟩)))) (hb hby d4_58) ⟨ba, cA1, rfl, N5, K5, F6, fr_ba⟩ (by decide) (by decide)
theorem d2_0 : decode jdk_42_method_149_code 0 = .ok (.aload_n 0, 1) := by decide +kernel
theorem d2_1 : decode jdk_42_method_149_code 1 = .ok (.invokespecial 1, 3) := by decide +kernel
theorem d2_4 : decode jdk_42_method_149_code 4 = .ok (.iload_n 3, 1) := by decide +kernel
theorem d2_5 : decode jdk_42_method_149_code 5 = .ok (.ifCond .ne 22, 3) := by decide +kernel
theorem d2_27 : decode jdk_42_method_149_code 27 = .ok (.getstatic 38, 3) := by decide +kernel
theorem d2_30 : decode jdk_42_method_149_code 30 = .ok (.ifCond .eq 28, 3) := by decide +kernel
theorem d2_33 : decode jdk_42_method_149_code 33 = .ok (.aload_n 1, 1) := by decide +kernel
theorem d2_34 : decode jdk_42_method_149_code 34 = .ok (.iload_n 2, 1) := by decide +kernel
theorem d2_35 : decode jdk_42_method_149_code 35 = .ok (.iload_n 3, 1) := by decide +kernel
theorem d2_36 : decode jdk_42_method_149_code 36 = .ok (.invokestatic 177, 3) := by decide +kernel
theorem d2_39 : decode jdk_42_method_149_code 39 = .ok (.astore 5, 2) := by decide +kernel
theorem d2_41 : decode jdk_42_method_149_code 41 = .ok (.aload_n 0, 1) := by decide +kernel
theorem d2_42 : decode jdk_42_method_149_code 42 = .ok (.aload 5, 2) := by decide +kernel
theorem d2_44 : decode jdk_42_method_149_code 44 = .ok (.iload_n 3, 1) := by decide +kernel
theorem d2_45 : decode jdk_42_method_149_code 45 = .ok (.invokestatic 47, 3) := by decide +kernel
theorem d2_48 : decode jdk_42_method_149_code 48 = .ok (.putfield 15, 3) := by decide +kernel
theorem d2_51 : decode jdk_42_method_149_code 51 = .ok (.aload_n 0, 1) := by decide +kernel
theorem d2_52 : decode jdk_42_method_149_code 52 = .ok (.aload 5, 2) := by decide +kernel
theorem d2_54 : decode jdk_42_method_149_code 54 = .ok (.putfield 9, 3) := by decide +kernel
theorem d2_57 : decode jdk_42_method_149_code 57 = .ok (.return_, 1) := by decide +kernel
theorem own_pd___CII__B : parseMethodDescriptor "([CII)[B" = some ⟨[(.array .char), .int, .int], (some (.array .byte))⟩ := by decide +kernel
theorem own_pd___BI_B : parseMethodDescriptor "([BI)B" = some ⟨[(.array .byte), .int], (some .byte)⟩ := by decide +kernel
theorem own_pf_s2 : plainFor own_y6 = true := by first | exact plainFor_of_name (show plainName "java/lang/String" = true by first | (simp [plainName, overriddenIn]; done) | decide +kernel) | decide +kernel
theorem own_ef_s2 (m : MethodId) (y0 : Addr) (y1 : Addr) (y2 : Int32) (y3 : Int32) : entryFrame m #[(.ref y0), (.ref y1), (.int y2), (.int y3), .null] 6 = mkF m 0 #[rv y0, rv y1, iv y2, iv y3, .val .null, .unset] [] := by first | (simp [entryFrame, mkF, argsToLocals, Value.category]; done) | rfl
def own_Qs2 (Z : State) (a : Addr) (ca : Addr) (kc : ClassId) (c0 : Int32) (c1 : Int32) (cz : Int32) (u1 : Value) (u2 : Value) (h0 : Heap) (n0 : Nat) (v : Option Value) (h : Heap) (L : List Loc) : Prop := v = none ∧ Fr n0 L ∧ Keep h0 h [a] ∧ Exa Z h a "java/lang/String"
set_option maxRecDepth 65536 in
set_option maxHeartbeats 40000000 in
theorem own_rms2 (l : Launch) (Z : State) (a0 : Array Value) (hw : ∀ d ∈ tables_1, d.before a0 Z = true) (ws : List Jvm.Cond) (a : Addr) (ca : Addr) (kc : ClassId) (c0 : Int32) (c1 : Int32) (cz : Int32) (u1 : Value) (u2 : Value) (h0 : Heap) (n0 : Nat) (Z0 : n0 ≤ h0.size) (P0 : Exa Z h0 a "java/lang/String") (P1 : Fld Z h0 a "java/lang/String" "coder" "B" u1) (P2 : Fld Z h0 a "java/lang/String" "value" "[B" u2) (P3 : own_Ar Z h0 ca kc .char [(.int c0), (.int c1)]) (P4 : Sta Z h0 "java/lang/String" "COMPACT_STRINGS" "Z" (.int cz)) (G_a : n0 ≤ a) (NE_a_ca : a ≠ ca) (p0 : ¬ ((255 : Int32) < c0)) (p1 : ¬ ((255 : Int32) < c1)) (hz : ¬ (cz = (0 : Int32))) :
    MetFree l own_y6 (head1 (Jvm.Cond.code own_y6 jdk_42_method_149_code 6 none :: ws) ({ frames := 2, cells := 1, slots := 2, locals := 35 } : Room)) (fun az Uz => az = #[(.ref a), (.ref ca), (.int 0), (.int 2), .null] ∧ Z.Warmed39 Uz.vm ∧ Uz.heap = h0) (fun _ _ _ _ _ => True) (fun _ U o U' => ∃ v L, o = .returned v ∧ own_Qs2 Z a ca kc c0 c1 cz u1 u2 h0 n0 v U'.heap L ∧ FrameEnd U o U' L ({ frames := 2, cells := 1, slots := 2, locals := 35 } : Room).cells ({ frames := 2, cells := 1, slots := 2, locals := 35 } : Room).slots) := by
  refine MetFree.of_bodySF own_pf_s2 hisR ?_
  intro p e s m args below meth c s₁ Bd hml0 hP hK
  obtain ⟨rfl, hZ, hh⟩ := hP
  have hx := Bd.exec
  have hby := Bd.bytes
  have hml : c.maxLocals = 6 := hml0
  have hown : s.vm.findClass "java/lang/String" = some m.cls := findClass_of_methodNamed Bd.named
  have hnm := (name_of_methodNamed Bd.named Bd.method).1
  have hlk : meth.locks = false := BodyLoose.notSynchronized Bd
  have hret := Bd.returns
  have X0 : Stand p l e ({ frames := 2, cells := 1, slots := 2, locals := 35 } : Room) s m #[(.ref a), (.ref ca), (.int 0), (.int 2), .null] below meth c s₁ [] 0 0 := Stand.of_body Bd
  have e0 : s₁.heap = h0 := by rw [← hh, Bd.state]; rfl
  have N0 := Fr.nil n0
  show own_E p e below (own_K s (own_Qs2 Z a ca kc c0 c1 cz u1 u2 h0 n0) ({ frames := 2, cells := 1, slots := 2, locals := 35 } : Room).cells ({ frames := 2, cells := 1, slots := 2, locals := 35 } : Room).slots) s₁ (entryFrame m #[(.ref a), (.ref ca), (.int 0), (.int 2), .null] 6)
  refine own_S (mkF m 0 #[rv a, rv ca, .val (.int 0), .val (.int 2), .val .null, .unset] []) (fun _ k => castTop (own_ef_s2 m (a) (ca) ((0 : Int32)) ((2 : Int32))) k) ?_
  refine own_S (mkF m 1 #[rv a, rv ca, .val (.int 0), .val (.int 2), .val .null, .unset] [(.ref a)]) (fun _ k => XS.aloadN X0.here hx rfl (hb hby d2_0) rfl rfl k) ?_
  obtain ⟨T1, X1, e1, st1⟩ := initO X0 hx hZ hown (own_g hw (i := 12) rfl) (own_g hw (i := 13) rfl) (own_g hw (i := 14) rfl) e0 (g := (mkF m 1 #[rv a, rv ca, .val (.int 0), .val (.int 2), .val .null, .unset] [(.ref a)])) rfl (by rw [hml]; rfl) rfl (hb hby d2_1) (by decide) (W := 0) (by show 2 * 0 + _ ≤ _; exact Nat.le_of_eq rfl) (by decide)
  refine own_S (mkF m 4 #[rv a, rv ca, .val (.int 0), .val (.int 2), .val .null, .unset] []) st1 ?_
  refine own_S (mkF m 5 #[rv a, rv ca, .val (.int 0), .val (.int 2), .val .null, .unset] [(.int 2)]) (fun _ k => XS.iloadN X1.here hx rfl (hb hby d2_4) rfl k) ?_
  have hc2 : ¬ ((2 : Int32) = (0 : Int32)) := by decide
  refine own_S (mkF m 27 #[rv a, rv ca, .val (.int 0), .val (.int 2), .val .null, .unset] []) (fun _ k => XS.ifYes X1.here hx rfl (pc0 := 5) (pc' := 27) rfl (hb hby d2_5) rfl ((if0 _ _).trans (feq hc2).2) (by decide) (by decide) k) ?_
  obtain ⟨T3, X3, e3, st3⟩ := getS (host := "") X1 hx hZ hown (own_g hw (i := 15) rfl) Via.refl e1 P4 (g := (mkF m 27 #[rv a, rv ca, .val (.int 0), .val (.int 2), .val .null, .unset] [])) rfl (hb hby d2_27)
  refine own_S (mkF m 30 #[rv a, rv ca, .val (.int 0), .val (.int 2), .val .null, .unset] [(.int cz)]) st3 ?_
  have hc4 : ¬ (cz = (0 : Int32)) := hz
  refine own_S (mkF m 33 #[rv a, rv ca, .val (.int 0), .val (.int 2), .val .null, .unset] []) (fun _ k => XS.ifNo X3.here hx rfl (hb hby d2_30) rfl ((if0 _ _).trans (feq hc4).1) k) ?_
  refine own_S (mkF m 34 #[rv a, rv ca, .val (.int 0), .val (.int 2), .val .null, .unset] [(.ref ca)]) (fun _ k => XS.aloadN X3.here hx rfl (hb hby d2_33) rfl rfl k) ?_
  refine own_S (mkF m 35 #[rv a, rv ca, .val (.int 0), .val (.int 2), .val .null, .unset] [(.int 0), (.ref ca)]) (fun _ k => XS.iloadN X3.here hx rfl (hb hby d2_34) rfl k) ?_
  refine own_S (mkF m 36 #[rv a, rv ca, .val (.int 0), .val (.int 2), .val .null, .unset] [(.int 2), (.int 0), (.ref ca)]) (fun _ k => XS.iloadN X3.here hx rfl (hb hby d2_35) rfl k) ?_
  obtain ⟨_, _, ⟨T5, L5, k5, n5⟩, -, X5, ⟨Lc5, hQ5, l5, y5, z5⟩, st5⟩ := Jvm.LawKit.callS X3 hx (y := own_y5) hown (mvT hZ (own_g hw (i := 16) rfl)) (mvT hZ (own_g hw (i := 17) rfl)) (mvT hZ (own_g hw (i := 18) rfl)) (mvT hZ (own_g hw (i := 19) rfl)) (by decide) (backOf (W := 0) (own_rmc1 l Z a0 hw [] (ca) (kc) (c0) (c1) h0 n0 Z0 P3 p0 p1) hZ (own_g hw (i := 19) rfl) (own_g hw (i := 18) rfl) (by decide) (by decide)) (g := (mkF m 36 #[rv a, rv ca, .val (.int 0), .val (.int 2), .val .null, .unset] [(.int 2), (.int 0), (.ref ca)])) rfl (by rw [hml]; rfl) (argsL := [(.ref ca), (.int 0), (.int 2)]) (rest := []) (lenOf own_pd___CII__B rfl) rfl (by show 2 * 0 + _ ≤ _; exact Nat.le_of_eq rfl) (hb hby d2_36) (fun _ _ => ⟨rfl, e3, (by decide : 0 + 1 ≤ _), (by decide : 0 + 2 ≤ _)⟩)
  dsimp only [Pt.U, Pt.locs, Pt.cells, Pt.slots] at X5 l5 y5 z5 st5 hQ5
  subst l5 y5 z5
  obtain ⟨ba, kb, rfl, N5q, K5q, F6, pp7⟩ := hQ5
  have N5 := Fr.app N0 N5q
  refine own_S (mkF m 39 #[rv a, rv ca, .val (.int 0), .val (.int 2), .val .null, .unset] [(.ref ba)]) (fun _ k => st5 _ k) ?_
  have K5 : Keep h0 T5.heap [a] := (Keep.refl h0 [a]).trans K5q all0
  have n8 : a ≠ ba := Nat.ne_of_lt (Nat.lt_of_lt_of_le P0.lt pp7)
  have n9 : ca ≠ ba := Nat.ne_of_lt (Nat.lt_of_lt_of_le P3.lt pp7)
  have ge_ba : n0 ≤ ba := Nat.le_trans Z0 pp7
  have fr_ba : h0.size ≤ ba := Nat.le_trans (Keep.refl h0 []).1 pp7
  have F10 := P0.keep K5q
  have F11 := P1.keep K5q nin0
  have F12 := P2.keep K5q nin0
  have F13 := P3.keep K5q nin0
  have F14 := P4.ext ⟨K5q.1, fun a c q => K5q.2.1 a c q nin0⟩
  have Z5 : n0 ≤ T5.heap.size := Nat.le_trans Z0 K5q.1
  refine own_S (mkF m 41 #[rv a, rv ca, .val (.int 0), .val (.int 2), .val .null, rv ba] []) (fun _ k => XS.astore X5.here hx rfl (hb hby d2_39) rfl rfl (l' := #[rv a, rv ca, .val (.int 0), .val (.int 2), .val .null, rv ba]) rfl k) ?_
  refine own_S (mkF m 42 #[rv a, rv ca, .val (.int 0), .val (.int 2), .val .null, rv ba] [(.ref a)]) (fun _ k => XS.aloadN X5.here hx rfl (hb hby d2_41) rfl rfl k) ?_
  refine own_S (mkF m 44 #[rv a, rv ca, .val (.int 0), .val (.int 2), .val .null, rv ba] [(.ref ba), (.ref a)]) (fun _ k => XS.aload X5.here hx rfl (hb hby d2_42) rfl rfl k) ?_
  refine own_S (mkF m 45 #[rv a, rv ca, .val (.int 0), .val (.int 2), .val .null, rv ba] [(.int 2), (.ref ba), (.ref a)]) (fun _ k => XS.iloadN X5.here hx rfl (hb hby d2_44) rfl k) ?_
  obtain ⟨_, _, ⟨T15, L15, k15, n15⟩, -, X15, ⟨Lc15, hQ15, l15, y15, z15⟩, st15⟩ := Jvm.LawKit.callS X5 hx (y := own_y3) hown (mvT hZ (own_g hw (i := 24) rfl)) (mvT hZ (own_g hw (i := 25) rfl)) (mvT hZ (own_g hw (i := 18) rfl)) (mvT hZ (own_g hw (i := 26) rfl)) (by decide) (backOf (W := 1) (own_rmcf l Z a0 hw [] (ba) (kb) ((.int (nar .byte ((c0).toInt8.toInt32)))) ((.int (nar .byte ((c1).toInt8.toInt32)))) T5.heap n0 Z5 F6) hZ (own_g hw (i := 26) rfl) (own_g hw (i := 18) rfl) (by decide) (by decide)) (g := (mkF m 45 #[rv a, rv ca, .val (.int 0), .val (.int 2), .val .null, rv ba] [(.int 2), (.ref ba), (.ref a)])) rfl (by rw [hml]; rfl) (argsL := [(.ref ba), (.int 2)]) (rest := [(.ref a)]) (lenOf own_pd___BI_B rfl) rfl (by show 2 * 0 + _ ≤ _; exact Nat.le_of_eq rfl) (hb hby d2_45) (fun _ _ => ⟨rfl, rfl, (by decide : 1 + 0 ≤ _), (by decide : 2 + 0 ≤ _)⟩)
  dsimp only [Pt.U, Pt.locs, Pt.cells, Pt.slots] at X15 l15 y15 z15 st15 hQ15
  subst l15 y15 z15
  obtain ⟨rfl, N15q, e15⟩ := hQ15
  have N15 := Fr.app N5 N15q
  refine own_S (mkF m 48 #[rv a, rv ca, .val (.int 0), .val (.int 2), .val .null, rv ba] [(.int 0), (.ref a)]) (fun _ k => st15 _ k) ?_
  obtain ⟨T16, h16, X16, e16, W16, st16⟩ := putF X15 hx hZ hown (host := "") (Or.inl (own_g hw (i := 27) rfl)) Via.refl e15 F11 F10 (Or.inr ⟨(own_g hw (i := 28) rfl), rfl, hnm⟩) (own_g hw (i := 3) rfl) (ty := .byte) (by decide) rfl rfl (g := (mkF m 48 #[rv a, rv ca, .val (.int 0), .val (.int 2), .val .null, rv ba] [(.int 0), (.ref a)])) rfl rfl (hb hby d2_48)
  refine own_S (mkF m 51 #[rv a, rv ca, .val (.int 0), .val (.int 2), .val .null, rv ba] []) st16 ?_
  have F17 := F10.wr W16
  have F18 := F11.same W16
  have F19 := F12.other W16 (Or.inr (slot_ne (Or.inr (own_g hw (i := 30) rfl)) (Or.inr (own_g hw (i := 28) rfl)) (by decide) (t := (.array .byte)) (t' := .byte) (by decide) (by decide)))
  have F20 := F13.other W16 (Ne.symm NE_a_ca)
  have F21 := F14.wr W16
  have F22 := F6.other W16 (Ne.symm n8)
  have N16 := Fr.snoc X16 N15 G_a
  have Z16 : n0 ≤ h16.size := by rw [Wr.size W16]; exact Z5
  have K16 : Keep h0 h16 [a] := K5.wr W16 (Or.inl (List.mem_of_getElem? (i := 0) rfl))
  refine own_S (mkF m 52 #[rv a, rv ca, .val (.int 0), .val (.int 2), .val .null, rv ba] [(.ref a)]) (fun _ k => XS.aloadN X16.here hx rfl (hb hby d2_51) rfl rfl k) ?_
  refine own_S (mkF m 54 #[rv a, rv ca, .val (.int 0), .val (.int 2), .val .null, rv ba] [(.ref ba), (.ref a)]) (fun _ k => XS.aload X16.here hx rfl (hb hby d2_52) rfl rfl k) ?_
  obtain ⟨T23, h23, X23, e23, W23, st23⟩ := putF X16 hx hZ hown (host := "") (Or.inl (own_g hw (i := 29) rfl)) Via.refl e16 F19 F17 (Or.inr ⟨(own_g hw (i := 30) rfl), rfl, hnm⟩) (own_g hw (i := 3) rfl) (ty := (.array .byte)) (by decide) rfl rfl (g := (mkF m 54 #[rv a, rv ca, .val (.int 0), .val (.int 2), .val .null, rv ba] [(.ref ba), (.ref a)])) rfl rfl (hb hby d2_54)
  refine own_S (mkF m 57 #[rv a, rv ca, .val (.int 0), .val (.int 2), .val .null, rv ba] []) st23 ?_
  have F24 := F17.wr W23
  have F25 := F18.other W23 (Or.inr (slot_ne (Or.inr (own_g hw (i := 28) rfl)) (Or.inr (own_g hw (i := 30) rfl)) (by decide) (t := .byte) (t' := (.array .byte)) (by decide) (by decide)))
  have F26 := F19.same W23
  have F27 := F20.other W23 (Ne.symm NE_a_ca)
  have F28 := F21.wr W23
  have F29 := F22.other W23 (Ne.symm n8)
  have N23 := Fr.snoc X23 N16 G_a
  have Z23 : n0 ≤ h23.size := by rw [Wr.size W23]; exact Z16
  have K23 : Keep h0 h23 [a] := K16.wr W23 (Or.inl (List.mem_of_getElem? (i := 0) rfl))
  exact own_ret0 X23 hx hlk hret (hb hby d2_57) (by rw [e23]; exact ⟨rfl, N23, K23, F24⟩) (by decide) (by decide)
theorem d1_0 : decode jdk_42_method_3_code 0 = .ok (.aload_n 0, 1) := by decide +kernel
theorem d1_1 : decode jdk_42_method_3_code 1 = .ok (.aload_n 1, 1) := by decide +kernel
theorem d1_2 : decode jdk_42_method_3_code 2 = .ok (.iconst 0, 1) := by decide +kernel
theorem d1_3 : decode jdk_42_method_3_code 3 = .ok (.aload_n 1, 1) := by decide +kernel
theorem d1_4 : decode jdk_42_method_3_code 4 = .ok (.arraylength, 1) := by decide +kernel
theorem d1_5 : decode jdk_42_method_3_code 5 = .ok (.aconst_null, 1) := by decide +kernel
theorem d1_6 : decode jdk_42_method_3_code 6 = .ok (.invokespecial 27, 3) := by decide +kernel
theorem d1_9 : decode jdk_42_method_3_code 9 = .ok (.return_, 1) := by decide +kernel
theorem own_pd___CIILjava_lang_Void__V : parseMethodDescriptor "([CIILjava/lang/Void;)V" = some ⟨[(.array .char), .int, .int, (.object "java/lang/Void")], none⟩ := by decide +kernel
theorem own_pf_s1 : plainFor own_y7 = true := by first | exact plainFor_of_name (show plainName "java/lang/String" = true by first | (simp [plainName, overriddenIn]; done) | decide +kernel) | decide +kernel
theorem own_ef_s1 (m : MethodId) (y0 : Addr) (y1 : Addr) : entryFrame m #[(.ref y0), (.ref y1)] 2 = mkF m 0 #[rv y0, rv y1] [] := by first | (simp [entryFrame, mkF, argsToLocals, Value.category]; done) | rfl
def own_Qs1 (Z : State) (a : Addr) (ca : Addr) (kc : ClassId) (c0 : Int32) (c1 : Int32) (cz : Int32) (u1 : Value) (u2 : Value) (h0 : Heap) (n0 : Nat) (v : Option Value) (h : Heap) (L : List Loc) : Prop := v = none ∧ Fr n0 L ∧ Keep h0 h [a] ∧ Exa Z h a "java/lang/String"
set_option maxRecDepth 65536 in
set_option maxHeartbeats 40000000 in
theorem own_rms1 (l : Launch) (Z : State) (a0 : Array Value) (hw : ∀ d ∈ tables_1, d.before a0 Z = true) (ws : List Jvm.Cond) (a : Addr) (ca : Addr) (kc : ClassId) (c0 : Int32) (c1 : Int32) (cz : Int32) (u1 : Value) (u2 : Value) (h0 : Heap) (n0 : Nat) (Z0 : n0 ≤ h0.size) (P0 : Exa Z h0 a "java/lang/String") (P1 : Fld Z h0 a "java/lang/String" "coder" "B" u1) (P2 : Fld Z h0 a "java/lang/String" "value" "[B" u2) (P3 : own_Ar Z h0 ca kc .char [(.int c0), (.int c1)]) (P4 : Sta Z h0 "java/lang/String" "COMPACT_STRINGS" "Z" (.int cz)) (G_a : n0 ≤ a) (NE_a_ca : a ≠ ca) (p0 : ¬ ((255 : Int32) < c0)) (p1 : ¬ ((255 : Int32) < c1)) (hz : ¬ (cz = (0 : Int32))) :
    MetFree l own_y7 (head1 (Jvm.Cond.code own_y7 jdk_42_method_3_code 2 none :: ws) ({ frames := 3, cells := 1, slots := 2, locals := 52 } : Room)) (fun az Uz => az = #[(.ref a), (.ref ca)] ∧ Z.Warmed39 Uz.vm ∧ Uz.heap = h0) (fun _ _ _ _ _ => True) (fun _ U o U' => ∃ v L, o = .returned v ∧ own_Qs1 Z a ca kc c0 c1 cz u1 u2 h0 n0 v U'.heap L ∧ FrameEnd U o U' L ({ frames := 3, cells := 1, slots := 2, locals := 52 } : Room).cells ({ frames := 3, cells := 1, slots := 2, locals := 52 } : Room).slots) := by
  refine MetFree.of_bodySF own_pf_s1 hisR ?_
  intro p e s m args below meth c s₁ Bd hml0 hP hK
  obtain ⟨rfl, hZ, hh⟩ := hP
  have hx := Bd.exec
  have hby := Bd.bytes
  have hml : c.maxLocals = 2 := hml0
  have hown : s.vm.findClass "java/lang/String" = some m.cls := findClass_of_methodNamed Bd.named
  have hnm := (name_of_methodNamed Bd.named Bd.method).1
  have hlk : meth.locks = false := BodyLoose.notSynchronized Bd
  have hret := Bd.returns
  have X0 : Stand p l e ({ frames := 3, cells := 1, slots := 2, locals := 52 } : Room) s m #[(.ref a), (.ref ca)] below meth c s₁ [] 0 0 := Stand.of_body Bd
  have e0 : s₁.heap = h0 := by rw [← hh, Bd.state]; rfl
  have N0 := Fr.nil n0
  show own_E p e below (own_K s (own_Qs1 Z a ca kc c0 c1 cz u1 u2 h0 n0) ({ frames := 3, cells := 1, slots := 2, locals := 52 } : Room).cells ({ frames := 3, cells := 1, slots := 2, locals := 52 } : Room).slots) s₁ (entryFrame m #[(.ref a), (.ref ca)] 2)
  refine own_S (mkF m 0 #[rv a, rv ca] []) (fun _ k => castTop (own_ef_s1 m (a) (ca)) k) ?_
  refine own_S (mkF m 1 #[rv a, rv ca] [(.ref a)]) (fun _ k => XS.aloadN X0.here hx rfl (hb hby d1_0) rfl rfl k) ?_
  refine own_S (mkF m 2 #[rv a, rv ca] [(.ref ca), (.ref a)]) (fun _ k => XS.aloadN X0.here hx rfl (hb hby d1_1) rfl rfl k) ?_
  refine own_S (mkF m 3 #[rv a, rv ca] [(.int 0), (.ref ca), (.ref a)]) (fun _ k => XS.iconst X0.here hx rfl (hb hby d1_2) k) ?_
  refine own_S (mkF m 4 #[rv a, rv ca] [(.ref ca), (.int 0), (.ref ca), (.ref a)]) (fun _ k => XS.aloadN X0.here hx rfl (hb hby d1_3) rfl rfl k) ?_
  refine own_S (mkF m 5 #[rv a, rv ca] [(.int 2), (.int 0), (.ref ca), (.ref a)]) (fun _ k => own_alen X0 hx hZ e0 P3 (g := (mkF m 4 #[rv a, rv ca] [(.ref ca), (.int 0), (.ref ca), (.ref a)])) rfl rfl (hb hby d1_4) _ k) ?_
  refine own_S (mkF m 6 #[rv a, rv ca] [.null, (.int 2), (.int 0), (.ref ca), (.ref a)]) (fun _ k => XS.aconstNull X0.here hx rfl (hb hby d1_5) k) ?_
  obtain ⟨_, _, ⟨T1, L1, k1, n1⟩, -, X1, ⟨Lc1, hQ1, l1, y1, z1⟩, st1⟩ := X0.specialBack hx (y := own_y6) rfl hown (mvT hZ (own_g hw (i := 8) rfl)) (mvT hZ (own_g hw (i := 9) rfl)) (mvT hZ (own_g hw (i := 11) rfl)) (by decide) (backOf (W := 0) (own_rms2 l Z a0 hw [] (a) (ca) (kc) (c0) (c1) (cz) (u1) (u2) h0 n0 Z0 P0 P1 P2 P3 P4 G_a NE_a_ca p0 p1 hz) hZ (own_g hw (i := 11) rfl) (own_g hw (i := 4) rfl) (by decide) (by decide)) (g := (mkF m 6 #[rv a, rv ca] [.null, (.int 2), (.int 0), (.ref ca), (.ref a)])) rfl (by rw [hml]; rfl) (Steps.refl _) (a := a) (argsL := [(.ref ca), (.int 0), (.int 2), .null]) (rest := []) (lenOf own_pd___CIILjava_lang_Void__V rfl) rfl (by show 2 * 0 + _ ≤ _; exact Nat.le_of_eq rfl) (hb hby d1_6) (fun _ _ => ⟨rfl, e0, (by decide : 0 + 1 ≤ _), (by decide : 0 + 2 ≤ _)⟩)
  dsimp only [Pt.U, Pt.locs, Pt.cells, Pt.slots] at X1 l1 y1 z1 st1 hQ1
  subst l1 y1 z1
  obtain ⟨rfl, N1q, K1q, F2⟩ := hQ1
  have N1 := Fr.app N0 N1q
  refine own_S (mkF m 9 #[rv a, rv ca] []) (fun _ k => st1.trans k) ?_
  have K1 : Keep h0 T1.heap [a] := (Keep.refl h0 [a]).trans K1q (allS (Or.inl (List.mem_of_getElem? (i := 0) rfl)) all0)
  have F3 := P3.keep K1q (ninS (Ne.symm NE_a_ca) nin0)
  have F4 := Sta_keep (n0 := 0) P4 K1q ((own_allS (old_plain P2) (fun _ q => nomatch q)))
  have Z1 : n0 ≤ T1.heap.size := Nat.le_trans Z0 K1q.1
  exact own_ret0 X1 hx hlk hret (hb hby d1_9) ⟨rfl, N1, K1, F2⟩ (by decide) (by decide)
theorem d9_0 : decode jdk_22_method_1_code 0 = .ok (.aload_n 0, 1) := by decide +kernel
theorem d9_1 : decode jdk_22_method_1_code 1 = .ok (.invokespecial 1, 3) := by decide +kernel
theorem d9_4 : decode jdk_22_method_1_code 4 = .ok (.return_, 1) := by decide +kernel
theorem own_pf_ac : plainFor own_y8 = true := by first | exact plainFor_of_name (show plainName "java/util/AbstractCollection" = true by first | (simp [plainName, overriddenIn]; done) | decide +kernel) | decide +kernel
theorem own_ef_ac (m : MethodId) (y0 : Addr) : entryFrame m #[(.ref y0)] 1 = mkF m 0 #[rv y0] [] := by first | (simp [entryFrame, mkF, argsToLocals, Value.category]; done) | rfl
def own_Qac (Z : State) (a : Addr) (h0 : Heap) (n0 : Nat) (v : Option Value) (h : Heap) (L : List Loc) : Prop := v = none ∧ Fr n0 L ∧ h = h0
set_option maxRecDepth 65536 in
set_option maxHeartbeats 40000000 in
theorem own_rmac (l : Launch) (Z : State) (a0 : Array Value) (hw : ∀ d ∈ tables_1, d.before a0 Z = true) (ws : List Jvm.Cond) (a : Addr) (h0 : Heap) (n0 : Nat) (Z0 : n0 ≤ h0.size)  :
    MetFree l own_y8 (head1 (Jvm.Cond.code own_y8 jdk_22_method_1_code 1 none :: ws) ({ frames := 1, cells := 0, slots := 0, locals := 12 } : Room)) (fun az Uz => az = #[(.ref a)] ∧ Z.Warmed39 Uz.vm ∧ Uz.heap = h0) (fun _ _ _ _ _ => True) (fun _ U o U' => ∃ v L, o = .returned v ∧ own_Qac Z a h0 n0 v U'.heap L ∧ FrameEnd U o U' L ({ frames := 1, cells := 0, slots := 0, locals := 12 } : Room).cells ({ frames := 1, cells := 0, slots := 0, locals := 12 } : Room).slots) := by
  refine MetFree.of_bodySF own_pf_ac hisR ?_
  intro p e s m args below meth c s₁ Bd hml0 hP hK
  obtain ⟨rfl, hZ, hh⟩ := hP
  have hx := Bd.exec
  have hby := Bd.bytes
  have hml : c.maxLocals = 1 := hml0
  have hown : s.vm.findClass "java/util/AbstractCollection" = some m.cls := findClass_of_methodNamed Bd.named
  have hnm := (name_of_methodNamed Bd.named Bd.method).1
  have hlk : meth.locks = false := BodyLoose.notSynchronized Bd
  have hret := Bd.returns
  have X0 : Stand p l e ({ frames := 1, cells := 0, slots := 0, locals := 12 } : Room) s m #[(.ref a)] below meth c s₁ [] 0 0 := Stand.of_body Bd
  have e0 : s₁.heap = h0 := by rw [← hh, Bd.state]; rfl
  have N0 := Fr.nil n0
  show own_E p e below (own_K s (own_Qac Z a h0 n0) ({ frames := 1, cells := 0, slots := 0, locals := 12 } : Room).cells ({ frames := 1, cells := 0, slots := 0, locals := 12 } : Room).slots) s₁ (entryFrame m #[(.ref a)] 1)
  refine own_S (mkF m 0 #[rv a] []) (fun _ k => castTop (own_ef_ac m (a)) k) ?_
  refine own_S (mkF m 1 #[rv a] [(.ref a)]) (fun _ k => XS.aloadN X0.here hx rfl (hb hby d9_0) rfl rfl k) ?_
  obtain ⟨T1, X1, e1, st1⟩ := initO X0 hx hZ hown (own_g hw (i := 49) rfl) (own_g hw (i := 13) rfl) (own_g hw (i := 14) rfl) e0 (g := (mkF m 1 #[rv a] [(.ref a)])) rfl (by rw [hml]; rfl) rfl (hb hby d9_1) (by decide) (W := 0) (by show 2 * 0 + _ ≤ _; exact Nat.le_of_eq rfl) (by decide)
  refine own_S (mkF m 4 #[rv a] []) st1 ?_
  exact own_ret0 X1 hx hlk hret (hb hby d9_4) (by rw [e1]; exact ⟨rfl, N0, rfl⟩) (by decide) (by decide)
theorem d8_0 : decode jdk_39_method_1_code 0 = .ok (.aload_n 0, 1) := by decide +kernel
theorem d8_1 : decode jdk_39_method_1_code 1 = .ok (.invokespecial 1, 3) := by decide +kernel
theorem d8_4 : decode jdk_39_method_1_code 4 = .ok (.aload_n 0, 1) := by decide +kernel
theorem d8_5 : decode jdk_39_method_1_code 5 = .ok (.iconst 0, 1) := by decide +kernel
theorem d8_6 : decode jdk_39_method_1_code 6 = .ok (.putfield 7, 3) := by decide +kernel
theorem d8_9 : decode jdk_39_method_1_code 9 = .ok (.return_, 1) := by decide +kernel
theorem own_pf_ab : plainFor own_y9 = true := by first | exact plainFor_of_name (show plainName "java/util/AbstractList" = true by first | (simp [plainName, overriddenIn]; done) | decide +kernel) | decide +kernel
theorem own_ef_ab (m : MethodId) (y0 : Addr) : entryFrame m #[(.ref y0)] 1 = mkF m 0 #[rv y0] [] := by first | (simp [entryFrame, mkF, argsToLocals, Value.category]; done) | rfl
def own_Qab (Z : State) (a : Addr) (u1 : Value) (u2 : Value) (u3 : Value) (h0 : Heap) (n0 : Nat) (v : Option Value) (h : Heap) (L : List Loc) : Prop := v = none ∧ Fr n0 L ∧ Keep h0 h [a] ∧ Exa Z h a "java/util/ArrayList" ∧ Fld Z h a "java/util/AbstractList" "modCount" "I" (.int (0 : Int32)) ∧ Fld Z h a "java/util/ArrayList" "elementData" "[Ljava/lang/Object;" u2 ∧ Fld Z h a "java/util/ArrayList" "size" "I" u3
set_option maxRecDepth 65536 in
set_option maxHeartbeats 40000000 in
theorem own_rmab (l : Launch) (Z : State) (a0 : Array Value) (hw : ∀ d ∈ tables_1, d.before a0 Z = true) (ws : List Jvm.Cond) (a : Addr) (u1 : Value) (u2 : Value) (u3 : Value) (h0 : Heap) (n0 : Nat) (Z0 : n0 ≤ h0.size) (P0 : Exa Z h0 a "java/util/ArrayList") (P1 : Fld Z h0 a "java/util/AbstractList" "modCount" "I" u1) (P2 : Fld Z h0 a "java/util/ArrayList" "elementData" "[Ljava/lang/Object;" u2) (P3 : Fld Z h0 a "java/util/ArrayList" "size" "I" u3) (G_a : n0 ≤ a) :
    MetFree l own_y9 (head1 (Jvm.Cond.code own_y9 jdk_39_method_1_code 1 none :: ws) ({ frames := 2, cells := 0, slots := 0, locals := 24 } : Room)) (fun az Uz => az = #[(.ref a)] ∧ Z.Warmed39 Uz.vm ∧ Uz.heap = h0) (fun _ _ _ _ _ => True) (fun _ U o U' => ∃ v L, o = .returned v ∧ own_Qab Z a u1 u2 u3 h0 n0 v U'.heap L ∧ FrameEnd U o U' L ({ frames := 2, cells := 0, slots := 0, locals := 24 } : Room).cells ({ frames := 2, cells := 0, slots := 0, locals := 24 } : Room).slots) := by
  refine MetFree.of_bodySF own_pf_ab hisR ?_
  intro p e s m args below meth c s₁ Bd hml0 hP hK
  obtain ⟨rfl, hZ, hh⟩ := hP
  have hx := Bd.exec
  have hby := Bd.bytes
  have hml : c.maxLocals = 1 := hml0
  have hown : s.vm.findClass "java/util/AbstractList" = some m.cls := findClass_of_methodNamed Bd.named
  have hnm := (name_of_methodNamed Bd.named Bd.method).1
  have hlk : meth.locks = false := BodyLoose.notSynchronized Bd
  have hret := Bd.returns
  have X0 : Stand p l e ({ frames := 2, cells := 0, slots := 0, locals := 24 } : Room) s m #[(.ref a)] below meth c s₁ [] 0 0 := Stand.of_body Bd
  have e0 : s₁.heap = h0 := by rw [← hh, Bd.state]; rfl
  have N0 := Fr.nil n0
  show own_E p e below (own_K s (own_Qab Z a u1 u2 u3 h0 n0) ({ frames := 2, cells := 0, slots := 0, locals := 24 } : Room).cells ({ frames := 2, cells := 0, slots := 0, locals := 24 } : Room).slots) s₁ (entryFrame m #[(.ref a)] 1)
  refine own_S (mkF m 0 #[rv a] []) (fun _ k => castTop (own_ef_ab m (a)) k) ?_
  refine own_S (mkF m 1 #[rv a] [(.ref a)]) (fun _ k => XS.aloadN X0.here hx rfl (hb hby d8_0) rfl rfl k) ?_
  obtain ⟨_, _, ⟨T1, L1, k1, n1⟩, -, X1, ⟨Lc1, hQ1, l1, y1, z1⟩, st1⟩ := X0.specialBack hx (y := own_y8) rfl hown (mvT hZ (own_g hw (i := 43) rfl)) (mvT hZ (own_g hw (i := 44) rfl)) (mvT hZ (own_g hw (i := 48) rfl)) (by decide) (backOf (W := 0) (own_rmac l Z a0 hw [] (a) h0 n0 Z0 ) hZ (own_g hw (i := 48) rfl) (own_g hw (i := 47) rfl) (by decide) (by decide)) (g := (mkF m 1 #[rv a] [(.ref a)])) rfl (by rw [hml]; rfl) (Steps.refl _) (a := a) (argsL := []) (rest := []) (lenOf own_pd___V rfl) rfl (by show 2 * 0 + _ ≤ _; exact Nat.le_of_eq rfl) (hb hby d8_1) (fun _ _ => ⟨rfl, e0, (by decide : 0 + 0 ≤ _), (by decide : 0 + 0 ≤ _)⟩)
  dsimp only [Pt.U, Pt.locs, Pt.cells, Pt.slots] at X1 l1 y1 z1 st1 hQ1
  subst l1 y1 z1
  obtain ⟨rfl, N1q, e1⟩ := hQ1
  have N1 := Fr.app N0 N1q
  refine own_S (mkF m 4 #[rv a] []) (fun _ k => st1.trans k) ?_
  refine own_S (mkF m 5 #[rv a] [(.ref a)]) (fun _ k => XS.aloadN X1.here hx rfl (hb hby d8_4) rfl rfl k) ?_
  refine own_S (mkF m 6 #[rv a] [(.int 0), (.ref a)]) (fun _ k => XS.iconst X1.here hx rfl (hb hby d8_5) k) ?_
  obtain ⟨T2, h2, X2, e2, W2, st2⟩ := putF X1 hx hZ hown (host := "") (Or.inl (own_g hw (i := 50) rfl)) Via.refl e1 P1 P0 (Or.inl (own_g hw (i := 51) rfl)) (own_g hw (i := 32) rfl) (ty := .int) (by decide) rfl rfl (g := (mkF m 6 #[rv a] [(.int 0), (.ref a)])) rfl rfl (hb hby d8_6)
  refine own_S (mkF m 9 #[rv a] []) st2 ?_
  have F3 := P0.wr W2
  have F4 := P1.same W2
  have F5 := P2.other W2 (Or.inr (slot_ne (Or.inl (own_g hw (i := 54) rfl)) (Or.inl (own_g hw (i := 51) rfl)) (by decide) (t := (.array (.object "java/lang/Object"))) (t' := .int) (by decide) (by decide)))
  have F6 := P3.other W2 (Or.inr (slot_ne (Or.inl (own_g hw (i := 71) rfl)) (Or.inl (own_g hw (i := 51) rfl)) (by decide) (t := .int) (t' := .int) (by decide) (by decide)))
  have N2 := Fr.snoc X2 N1 G_a
  have Z2 : n0 ≤ h2.size := by rw [Wr.size W2]; exact Z0
  have K2 : Keep h0 h2 [a] := (Keep.refl _ _).wr W2 (Or.inl (List.mem_of_getElem? (i := 0) rfl))
  exact own_ret0 X2 hx hlk hret (hb hby d8_9) (by rw [e2]; exact ⟨rfl, N2, K2, F3, F4, F5, F6⟩) (by decide) (by decide)
theorem d7_0 : decode jdk_38_method_2_code 0 = .ok (.aload_n 0, 1) := by decide +kernel
theorem d7_1 : decode jdk_38_method_2_code 1 = .ok (.invokespecial 1, 3) := by decide +kernel
theorem d7_4 : decode jdk_38_method_2_code 4 = .ok (.aload_n 0, 1) := by decide +kernel
theorem d7_5 : decode jdk_38_method_2_code 5 = .ok (.getstatic 39, 3) := by decide +kernel
theorem d7_8 : decode jdk_38_method_2_code 8 = .ok (.putfield 9, 3) := by decide +kernel
theorem d7_11 : decode jdk_38_method_2_code 11 = .ok (.return_, 1) := by decide +kernel
theorem own_pf_ai : plainFor own_y10 = true := by first | exact plainFor_of_name (show plainName "java/util/ArrayList" = true by first | (simp [plainName, overriddenIn]; done) | decide +kernel) | decide +kernel
theorem own_ef_ai (m : MethodId) (y0 : Addr) : entryFrame m #[(.ref y0)] 1 = mkF m 0 #[rv y0] [] := by first | (simp [entryFrame, mkF, argsToLocals, Value.category]; done) | rfl
def own_Qai (Z : State) (a : Addr) (ea : Addr) (u1 : Value) (u2 : Value) (u3 : Value) (h0 : Heap) (n0 : Nat) (v : Option Value) (h : Heap) (L : List Loc) : Prop := v = none ∧ Fr n0 L ∧ Keep h0 h [a] ∧ Exa Z h a "java/util/ArrayList" ∧ Fld Z h a "java/util/AbstractList" "modCount" "I" (.int (0 : Int32)) ∧ Fld Z h a "java/util/ArrayList" "elementData" "[Ljava/lang/Object;" (.ref ea) ∧ Fld Z h a "java/util/ArrayList" "size" "I" u3
set_option maxRecDepth 65536 in
set_option maxHeartbeats 40000000 in
theorem own_rmai (l : Launch) (Z : State) (a0 : Array Value) (hw : ∀ d ∈ tables_1, d.before a0 Z = true) (ws : List Jvm.Cond) (a : Addr) (ea : Addr) (u1 : Value) (u2 : Value) (u3 : Value) (h0 : Heap) (n0 : Nat) (Z0 : n0 ≤ h0.size) (P0 : Exa Z h0 a "java/util/ArrayList") (P1 : Fld Z h0 a "java/util/AbstractList" "modCount" "I" u1) (P2 : Fld Z h0 a "java/util/ArrayList" "elementData" "[Ljava/lang/Object;" u2) (P3 : Fld Z h0 a "java/util/ArrayList" "size" "I" u3) (P4 : Sta Z h0 "java/util/ArrayList" "DEFAULTCAPACITY_EMPTY_ELEMENTDATA" "[Ljava/lang/Object;" (.ref ea)) (G_a : n0 ≤ a) :
    MetFree l own_y10 (head1 (Jvm.Cond.code own_y10 jdk_38_method_2_code 1 none :: ws) ({ frames := 3, cells := 0, slots := 0, locals := 36 } : Room)) (fun az Uz => az = #[(.ref a)] ∧ Z.Warmed39 Uz.vm ∧ Uz.heap = h0) (fun _ _ _ _ _ => True) (fun _ U o U' => ∃ v L, o = .returned v ∧ own_Qai Z a ea u1 u2 u3 h0 n0 v U'.heap L ∧ FrameEnd U o U' L ({ frames := 3, cells := 0, slots := 0, locals := 36 } : Room).cells ({ frames := 3, cells := 0, slots := 0, locals := 36 } : Room).slots) := by
  refine MetFree.of_bodySF own_pf_ai hisR ?_
  intro p e s m args below meth c s₁ Bd hml0 hP hK
  obtain ⟨rfl, hZ, hh⟩ := hP
  have hx := Bd.exec
  have hby := Bd.bytes
  have hml : c.maxLocals = 1 := hml0
  have hown : s.vm.findClass "java/util/ArrayList" = some m.cls := findClass_of_methodNamed Bd.named
  have hnm := (name_of_methodNamed Bd.named Bd.method).1
  have hlk : meth.locks = false := BodyLoose.notSynchronized Bd
  have hret := Bd.returns
  have X0 : Stand p l e ({ frames := 3, cells := 0, slots := 0, locals := 36 } : Room) s m #[(.ref a)] below meth c s₁ [] 0 0 := Stand.of_body Bd
  have e0 : s₁.heap = h0 := by rw [← hh, Bd.state]; rfl
  have N0 := Fr.nil n0
  show own_E p e below (own_K s (own_Qai Z a ea u1 u2 u3 h0 n0) ({ frames := 3, cells := 0, slots := 0, locals := 36 } : Room).cells ({ frames := 3, cells := 0, slots := 0, locals := 36 } : Room).slots) s₁ (entryFrame m #[(.ref a)] 1)
  refine own_S (mkF m 0 #[rv a] []) (fun _ k => castTop (own_ef_ai m (a)) k) ?_
  refine own_S (mkF m 1 #[rv a] [(.ref a)]) (fun _ k => XS.aloadN X0.here hx rfl (hb hby d7_0) rfl rfl k) ?_
  obtain ⟨_, _, ⟨T1, L1, k1, n1⟩, -, X1, ⟨Lc1, hQ1, l1, y1, z1⟩, st1⟩ := X0.specialBack hx (y := own_y9) rfl hown (mvT hZ (own_g hw (i := 37) rfl)) (mvT hZ (own_g hw (i := 38) rfl)) (mvT hZ (own_g hw (i := 42) rfl)) (by decide) (backOf (W := 0) (own_rmab l Z a0 hw [] (a) (u1) (u2) (u3) h0 n0 Z0 P0 P1 P2 P3 G_a) hZ (own_g hw (i := 42) rfl) (own_g hw (i := 41) rfl) (by decide) (by decide)) (g := (mkF m 1 #[rv a] [(.ref a)])) rfl (by rw [hml]; rfl) (Steps.refl _) (a := a) (argsL := []) (rest := []) (lenOf own_pd___V rfl) rfl (by show 2 * 0 + _ ≤ _; exact Nat.le_of_eq rfl) (hb hby d7_1) (fun _ _ => ⟨rfl, e0, (by decide : 0 + 0 ≤ _), (by decide : 0 + 0 ≤ _)⟩)
  dsimp only [Pt.U, Pt.locs, Pt.cells, Pt.slots] at X1 l1 y1 z1 st1 hQ1
  subst l1 y1 z1
  obtain ⟨rfl, N1q, K1q, F2, F3, F4, F5⟩ := hQ1
  have N1 := Fr.app N0 N1q
  refine own_S (mkF m 4 #[rv a] []) (fun _ k => st1.trans k) ?_
  have K1 : Keep h0 T1.heap [a] := (Keep.refl h0 [a]).trans K1q (allS (Or.inl (List.mem_of_getElem? (i := 0) rfl)) all0)
  have F6 := Sta_keep (n0 := 0) P4 K1q ((own_allS (old_plain P3) (fun _ q => nomatch q)))
  have Z1 : n0 ≤ T1.heap.size := Nat.le_trans Z0 K1q.1
  refine own_S (mkF m 5 #[rv a] [(.ref a)]) (fun _ k => XS.aloadN X1.here hx rfl (hb hby d7_4) rfl rfl k) ?_
  obtain ⟨T7, X7, e7, st7⟩ := getS (host := "") X1 hx hZ hown (own_g hw (i := 52) rfl) Via.refl rfl F6 (g := (mkF m 5 #[rv a] [(.ref a)])) rfl (hb hby d7_5)
  refine own_S (mkF m 8 #[rv a] [(.ref ea), (.ref a)]) st7 ?_
  obtain ⟨T8, h8, X8, e8, W8, st8⟩ := putF X7 hx hZ hown (host := "") (Or.inl (own_g hw (i := 53) rfl)) Via.refl e7 F4 F2 (Or.inl (own_g hw (i := 54) rfl)) (own_g hw (i := 32) rfl) (ty := (.array (.object "java/lang/Object"))) (by decide) rfl rfl (g := (mkF m 8 #[rv a] [(.ref ea), (.ref a)])) rfl rfl (hb hby d7_8)
  refine own_S (mkF m 11 #[rv a] []) st8 ?_
  have F9 := F6.wr W8
  have F10 := F2.wr W8
  have F11 := F3.other W8 (Or.inr (slot_ne (Or.inl (own_g hw (i := 51) rfl)) (Or.inl (own_g hw (i := 54) rfl)) (by decide) (t := .int) (t' := (.array (.object "java/lang/Object"))) (by decide) (by decide)))
  have F12 := F4.same W8
  have F13 := F5.other W8 (Or.inr (slot_ne (Or.inl (own_g hw (i := 71) rfl)) (Or.inl (own_g hw (i := 54) rfl)) (by decide) (t := .int) (t' := (.array (.object "java/lang/Object"))) (by decide) (by decide)))
  have N8 := Fr.snoc X8 N1 G_a
  have Z8 : n0 ≤ h8.size := by rw [Wr.size W8]; exact Z1
  have K8 : Keep h0 h8 [a] := K1.wr W8 (Or.inl (List.mem_of_getElem? (i := 0) rfl))
  exact own_ret0 X8 hx hlk hret (hb hby d7_11) (by rw [e8]; exact ⟨rfl, N8, K8, F10, F11, F12, F13⟩) (by decide) (by decide)
theorem d15_0 : decode jdk_29_method_65_code 0 = .ok (.iload_n 0, 1) := by decide +kernel
theorem d15_1 : decode jdk_29_method_65_code 1 = .ok (.iload_n 1, 1) := by decide +kernel
theorem d15_2 : decode jdk_29_method_65_code 2 = .ok (.if_icmp .lt 7, 3) := by decide +kernel
theorem d15_5 : decode jdk_29_method_65_code 5 = .ok (.iload_n 0, 1) := by decide +kernel
theorem d15_6 : decode jdk_29_method_65_code 6 = .ok (.goto 4, 3) := by decide +kernel
theorem d15_10 : decode jdk_29_method_65_code 10 = .ok (.ireturn, 1) := by decide +kernel
theorem own_pf_mx : plainFor own_y11 = true := by first | exact plainFor_of_name (show plainName "java/lang/Math" = true by first | (simp [plainName, overriddenIn]; done) | decide +kernel) | decide +kernel
theorem own_ef_mx (m : MethodId) (y0 : Int32) (y1 : Int32) : entryFrame m #[(.int y0), (.int y1)] 2 = mkF m 0 #[iv y0, iv y1] [] := by first | (simp [entryFrame, mkF, argsToLocals, Value.category]; done) | rfl
def own_Qmx (Z : State)  (h0 : Heap) (n0 : Nat) (v : Option Value) (h : Heap) (L : List Loc) : Prop := v = some (.int (10 : Int32)) ∧ Fr n0 L ∧ h = h0
set_option maxRecDepth 65536 in
set_option maxHeartbeats 40000000 in
theorem own_rmmx (l : Launch) (Z : State) (a0 : Array Value) (hw : ∀ d ∈ tables_1, d.before a0 Z = true) (ws : List Jvm.Cond)  (h0 : Heap) (n0 : Nat) (Z0 : n0 ≤ h0.size)  :
    MetFree l own_y11 (head1 (Jvm.Cond.code own_y11 jdk_29_method_65_code 2 (some .int) :: ws) ({ frames := 0, cells := 0, slots := 0, locals := 0 } : Room)) (fun az Uz => az = #[(.int 10), (.int 1)] ∧ Z.Warmed39 Uz.vm ∧ Uz.heap = h0) (fun _ _ _ _ _ => True) (fun _ U o U' => ∃ v L, o = .returned v ∧ own_Qmx Z  h0 n0 v U'.heap L ∧ FrameEnd U o U' L ({ frames := 0, cells := 0, slots := 0, locals := 0 } : Room).cells ({ frames := 0, cells := 0, slots := 0, locals := 0 } : Room).slots) := by
  refine MetFree.of_bodySF own_pf_mx hisR ?_
  intro p e s m args below meth c s₁ Bd hml0 hP hK
  obtain ⟨rfl, hZ, hh⟩ := hP
  have hx := Bd.exec
  have hby := Bd.bytes
  have hml : c.maxLocals = 2 := hml0
  have hown : s.vm.findClass "java/lang/Math" = some m.cls := findClass_of_methodNamed Bd.named
  have hnm := (name_of_methodNamed Bd.named Bd.method).1
  have hlk : meth.locks = false := BodyLoose.notSynchronized Bd
  have hret := Bd.returns
  have X0 : Stand p l e ({ frames := 0, cells := 0, slots := 0, locals := 0 } : Room) s m #[(.int 10), (.int 1)] below meth c s₁ [] 0 0 := Stand.of_body Bd
  have e0 : s₁.heap = h0 := by rw [← hh, Bd.state]; rfl
  have N0 := Fr.nil n0
  show own_E p e below (own_K s (own_Qmx Z  h0 n0) ({ frames := 0, cells := 0, slots := 0, locals := 0 } : Room).cells ({ frames := 0, cells := 0, slots := 0, locals := 0 } : Room).slots) s₁ (entryFrame m #[(.int 10), (.int 1)] 2)
  refine own_S (mkF m 0 #[.val (.int 10), .val (.int 1)] []) (fun _ k => castTop (own_ef_mx m ((10 : Int32)) ((1 : Int32))) k) ?_
  refine own_S (mkF m 1 #[.val (.int 10), .val (.int 1)] [(.int 10)]) (fun _ k => XS.iloadN X0.here hx rfl (hb hby d15_0) rfl k) ?_
  refine own_S (mkF m 2 #[.val (.int 10), .val (.int 1)] [(.int 1), (.int 10)]) (fun _ k => XS.iloadN X0.here hx rfl (hb hby d15_1) rfl k) ?_
  have hc1 : ¬ ((10 : Int32) < (1 : Int32)) := by decide
  refine own_S (mkF m 5 #[.val (.int 10), .val (.int 1)] []) (fun _ k => XS.icmpNo X0.here hx rfl (hb hby d15_2) rfl (flt hc1).1 k) ?_
  refine own_S (mkF m 6 #[.val (.int 10), .val (.int 1)] [(.int 10)]) (fun _ k => XS.iloadN X0.here hx rfl (hb hby d15_5) rfl k) ?_
  refine own_S (mkF m 10 #[.val (.int 10), .val (.int 1)] [(.int 10)]) (fun _ k => XS.goto X0.here hx rfl (pc0 := 6) (pc' := 10) rfl (hb hby d15_6) (by decide) (by decide) k) ?_
  exact own_ret X0 hx hlk (t := .int) hret rfl (Or.inl ⟨rfl, Or.inl rfl, _, rfl⟩) (hb hby d15_10) (by rw [e0]; exact ⟨rfl, N0, rfl⟩) (by decide) (by decide)
theorem d14_0 : decode jdk_38_method_6_code 0 = .ok (.aload_n 0, 1) := by decide +kernel
theorem d14_1 : decode jdk_38_method_6_code 1 = .ok (.getfield 9, 3) := by decide +kernel
theorem d14_4 : decode jdk_38_method_6_code 4 = .ok (.arraylength, 1) := by decide +kernel
theorem d14_5 : decode jdk_38_method_6_code 5 = .ok (.istore_n 2, 1) := by decide +kernel
theorem d14_6 : decode jdk_38_method_6_code 6 = .ok (.iload_n 2, 1) := by decide +kernel
theorem d14_7 : decode jdk_38_method_6_code 7 = .ok (.ifCond .gt 13, 3) := by decide +kernel
theorem d14_10 : decode jdk_38_method_6_code 10 = .ok (.aload_n 0, 1) := by decide +kernel
theorem d14_11 : decode jdk_38_method_6_code 11 = .ok (.getfield 9, 3) := by decide +kernel
theorem d14_14 : decode jdk_38_method_6_code 14 = .ok (.getstatic 39, 3) := by decide +kernel
theorem d14_17 : decode jdk_38_method_6_code 17 = .ok (.if_acmp .eq 28, 3) := by decide +kernel
theorem d14_45 : decode jdk_38_method_6_code 45 = .ok (.aload_n 0, 1) := by decide +kernel
theorem d14_46 : decode jdk_38_method_6_code 46 = .ok (.bipush 10, 2) := by decide +kernel
theorem d14_48 : decode jdk_38_method_6_code 48 = .ok (.iload_n 1, 1) := by decide +kernel
theorem d14_49 : decode jdk_38_method_6_code 49 = .ok (.invokestatic 79, 3) := by decide +kernel
theorem d14_52 : decode jdk_38_method_6_code 52 = .ok (.anewarray 7, 3) := by decide +kernel
theorem d14_55 : decode jdk_38_method_6_code 55 = .ok (.dup_x1, 1) := by decide +kernel
theorem d14_56 : decode jdk_38_method_6_code 56 = .ok (.putfield 9, 3) := by decide +kernel
theorem d14_59 : decode jdk_38_method_6_code 59 = .ok (.areturn, 1) := by decide +kernel
theorem own_pd__II_I : parseMethodDescriptor "(II)I" = some ⟨[.int, .int], (some .int)⟩ := by decide +kernel
theorem own_pf_g2 : plainFor own_y12 = true := by first | exact plainFor_of_name (show plainName "java/util/ArrayList" = true by first | (simp [plainName, overriddenIn]; done) | decide +kernel) | decide +kernel
theorem own_ef_g2 (m : MethodId) (y0 : Addr) (y1 : Int32) : entryFrame m #[(.ref y0), (.int y1)] 4 = mkF m 0 #[rv y0, iv y1, .unset, .unset] [] := by first | (simp [entryFrame, mkF, argsToLocals, Value.category]; done) | rfl
def own_Qg2 (Z : State) (a : Addr) (ea : Addr) (ke : ClassId) (u1 : Value) (h0 : Heap) (n0 : Nat) (v : Option Value) (h : Heap) (L : List Loc) : Prop := ∃ (na : Addr) (kn : ClassId), v = some (.ref na) ∧ Fr n0 L ∧ Keep h0 h [a] ∧ Exa Z h a "java/util/ArrayList" ∧ Fld Z h a "java/util/AbstractList" "modCount" "I" u1 ∧ Fld Z h a "java/util/ArrayList" "elementData" "[Ljava/lang/Object;" (.ref na) ∧ Fld Z h a "java/util/ArrayList" "size" "I" (.int (0 : Int32)) ∧ own_Ar Z h na kn (.object "java/lang/Object") [.null, .null, .null, .null, .null, .null, .null, .null, .null, .null] ∧ h0.size ≤ na ∧ Ovr Z kn "java/lang/Object"
set_option maxRecDepth 65536 in
set_option maxHeartbeats 40000000 in
theorem own_rmg2 (l : Launch) (Z : State) (a0 : Array Value) (hw : ∀ d ∈ tables_1, d.before a0 Z = true) (ws : List Jvm.Cond) (a : Addr) (ea : Addr) (ke : ClassId) (u1 : Value) (h0 : Heap) (n0 : Nat) (Z0 : n0 ≤ h0.size) (P0 : Exa Z h0 a "java/util/ArrayList") (P1 : Fld Z h0 a "java/util/AbstractList" "modCount" "I" u1) (P2 : Fld Z h0 a "java/util/ArrayList" "elementData" "[Ljava/lang/Object;" (.ref ea)) (P3 : Fld Z h0 a "java/util/ArrayList" "size" "I" (.int (0 : Int32))) (P4 : own_Ar Z h0 ea ke (.object "java/lang/Object") []) (P5 : Sta Z h0 "java/util/ArrayList" "DEFAULTCAPACITY_EMPTY_ELEMENTDATA" "[Ljava/lang/Object;" (.ref ea)) (G_a : n0 ≤ a) (NE_a_ea : a ≠ ea) :
    MetFree l own_y12 (head1 (Jvm.Cond.code own_y12 jdk_38_method_6_code 4 (some (.array (.object "java/lang/Object"))) :: ws) ({ frames := 1, cells := 1, slots := 10, locals := 14 } : Room)) (fun az Uz => az = #[(.ref a), (.int 1)] ∧ Z.Warmed39 Uz.vm ∧ Uz.heap = h0) (fun _ _ _ _ _ => True) (fun _ U o U' => ∃ v L, o = .returned v ∧ own_Qg2 Z a ea ke u1 h0 n0 v U'.heap L ∧ FrameEnd U o U' L ({ frames := 1, cells := 1, slots := 10, locals := 14 } : Room).cells ({ frames := 1, cells := 1, slots := 10, locals := 14 } : Room).slots) := by
  refine MetFree.of_bodySF own_pf_g2 hisR ?_
  intro p e s m args below meth c s₁ Bd hml0 hP hK
  obtain ⟨rfl, hZ, hh⟩ := hP
  have hx := Bd.exec
  have hby := Bd.bytes
  have hml : c.maxLocals = 4 := hml0
  have hown : s.vm.findClass "java/util/ArrayList" = some m.cls := findClass_of_methodNamed Bd.named
  have hnm := (name_of_methodNamed Bd.named Bd.method).1
  have hlk : meth.locks = false := BodyLoose.notSynchronized Bd
  have hret := Bd.returns
  have X0 : Stand p l e ({ frames := 1, cells := 1, slots := 10, locals := 14 } : Room) s m #[(.ref a), (.int 1)] below meth c s₁ [] 0 0 := Stand.of_body Bd
  have e0 : s₁.heap = h0 := by rw [← hh, Bd.state]; rfl
  have N0 := Fr.nil n0
  show own_E p e below (own_K s (own_Qg2 Z a ea ke u1 h0 n0) ({ frames := 1, cells := 1, slots := 10, locals := 14 } : Room).cells ({ frames := 1, cells := 1, slots := 10, locals := 14 } : Room).slots) s₁ (entryFrame m #[(.ref a), (.int 1)] 4)
  refine own_S (mkF m 0 #[rv a, .val (.int 1), .unset, .unset] []) (fun _ k => castTop (own_ef_g2 m (a) ((1 : Int32))) k) ?_
  refine own_S (mkF m 1 #[rv a, .val (.int 1), .unset, .unset] [(.ref a)]) (fun _ k => XS.aloadN X0.here hx rfl (hb hby d14_0) rfl rfl k) ?_
  obtain ⟨T1, X1, e1, st1⟩ := getF X0 hx hZ hown (host := "") (Or.inl (own_g hw (i := 53) rfl)) Via.refl e0 P2 (g := (mkF m 1 #[rv a, .val (.int 1), .unset, .unset] [(.ref a)])) rfl rfl (hb hby d14_1)
  refine own_S (mkF m 4 #[rv a, .val (.int 1), .unset, .unset] [(.ref ea)]) st1 ?_
  refine own_S (mkF m 5 #[rv a, .val (.int 1), .unset, .unset] [(.int 0)]) (fun _ k => own_alen X1 hx hZ e1 P4 (g := (mkF m 4 #[rv a, .val (.int 1), .unset, .unset] [(.ref ea)])) rfl rfl (hb hby d14_4) _ k) ?_
  refine own_S (mkF m 6 #[rv a, .val (.int 1), .val (.int 0), .unset] []) (fun _ k => XS.istoreN X1.here hx rfl (hb hby d14_5) rfl (l' := #[rv a, .val (.int 1), .val (.int 0), .unset]) rfl k) ?_
  refine own_S (mkF m 7 #[rv a, .val (.int 1), .val (.int 0), .unset] [(.int 0)]) (fun _ k => XS.iloadN X1.here hx rfl (hb hby d14_6) rfl k) ?_
  have hc2 : ¬ ((0 : Int32) < (0 : Int32)) := by decide
  refine own_S (mkF m 10 #[rv a, .val (.int 1), .val (.int 0), .unset] []) (fun _ k => XS.ifNo X1.here hx rfl (hb hby d14_7) rfl ((if0 _ _).trans (flt hc2).2.2.1) k) ?_
  refine own_S (mkF m 11 #[rv a, .val (.int 1), .val (.int 0), .unset] [(.ref a)]) (fun _ k => XS.aloadN X1.here hx rfl (hb hby d14_10) rfl rfl k) ?_
  obtain ⟨T3, X3, e3, st3⟩ := getF X1 hx hZ hown (host := "") (Or.inl (own_g hw (i := 53) rfl)) Via.refl e1 P2 (g := (mkF m 11 #[rv a, .val (.int 1), .val (.int 0), .unset] [(.ref a)])) rfl rfl (hb hby d14_11)
  refine own_S (mkF m 14 #[rv a, .val (.int 1), .val (.int 0), .unset] [(.ref ea)]) st3 ?_
  obtain ⟨T4, X4, e4, st4⟩ := getS (host := "") X3 hx hZ hown (own_g hw (i := 52) rfl) Via.refl e3 P5 (g := (mkF m 14 #[rv a, .val (.int 1), .val (.int 0), .unset] [(.ref ea)])) rfl (hb hby d14_14)
  refine own_S (mkF m 17 #[rv a, .val (.int 1), .val (.int 0), .unset] [(.ref ea), (.ref ea)]) st4 ?_
  have hc5 : ea = ea := rfl
  refine own_S (mkF m 45 #[rv a, .val (.int 1), .val (.int 0), .unset] []) (fun _ k => acmp X4 hx rfl rfl rfl (pc0 := 17) (pc' := 45) (same := true) rfl (hb hby d14_17) rfl (by simp [hc5]) (by decide) (by decide) k) ?_
  refine own_S (mkF m 46 #[rv a, .val (.int 1), .val (.int 0), .unset] [(.ref a)]) (fun _ k => XS.aloadN X4.here hx rfl (hb hby d14_45) rfl rfl k) ?_
  refine own_S (mkF m 48 #[rv a, .val (.int 1), .val (.int 0), .unset] [(.int 10), (.ref a)]) (fun _ k => XS.bipush X4.here hx rfl (hb hby d14_46) k) ?_
  refine own_S (mkF m 49 #[rv a, .val (.int 1), .val (.int 0), .unset] [(.int 1), (.int 10), (.ref a)]) (fun _ k => XS.iloadN X4.here hx rfl (hb hby d14_48) rfl k) ?_
  obtain ⟨_, _, ⟨T6, L6, k6, n6⟩, -, X6, ⟨Lc6, hQ6, l6, y6, z6⟩, st6⟩ := Jvm.LawKit.callS X4 hx (y := own_y11) hown (mvT hZ (own_g hw (i := 87) rfl)) (mvT hZ (own_g hw (i := 88) rfl)) (mvT hZ (own_g hw (i := 89) rfl)) (mvT hZ (own_g hw (i := 90) rfl)) (by decide) (backOf (W := 1) (own_rmmx l Z a0 hw []  h0 n0 Z0 ) hZ (own_g hw (i := 90) rfl) (own_g hw (i := 89) rfl) (by decide) (by decide)) (g := (mkF m 49 #[rv a, .val (.int 1), .val (.int 0), .unset] [(.int 1), (.int 10), (.ref a)])) rfl (by rw [hml]; rfl) (argsL := [(.int 10), (.int 1)]) (rest := [(.ref a)]) (lenOf own_pd__II_I rfl) rfl (by show 2 * 0 + _ ≤ _; exact Nat.le_of_eq rfl) (hb hby d14_49) (fun _ _ => ⟨rfl, e4, (by decide : 0 + 0 ≤ _), (by decide : 0 + 0 ≤ _)⟩)
  dsimp only [Pt.U, Pt.locs, Pt.cells, Pt.slots] at X6 l6 y6 z6 st6 hQ6
  subst l6 y6 z6
  obtain ⟨rfl, N6q, e6⟩ := hQ6
  have N6 := Fr.app N0 N6q
  refine own_S (mkF m 52 #[rv a, .val (.int 1), .val (.int 0), .unset] [(.int 10), (.ref a)]) (fun _ k => st6 _ k) ?_
  obtain ⟨T7, h7, cA7, X7, e7, E7, A7, O7, st7⟩ := newR X6 hx hZ hown (own_g hw (i := 91) rfl) (own_g hw (i := 92) rfl) e6 (g := (mkF m 52 #[rv a, .val (.int 1), .val (.int 0), .unset] [(.int 10), (.ref a)])) rfl (hb hby d14_52) rfl (by decide) (cap := 10) (by decide) (by decide) (by decide) (by decide)
  obtain ⟨na, g7⟩ : ∃ z, z = h0.size := ⟨_, rfl⟩
  rw [← g7] at A7 st7
  have n8 : a ≠ na := Nat.ne_of_lt (Nat.lt_of_lt_of_eq P0.lt g7.symm)
  have n9 : ea ≠ na := Nat.ne_of_lt (Nat.lt_of_lt_of_eq P4.lt g7.symm)
  have ge_na : n0 ≤ na := Nat.le_trans Z0 (Nat.le_of_eq g7.symm)
  have fr_na : h0.size ≤ na := Nat.le_trans (Keep.refl h0 []).1 (Nat.le_of_eq g7.symm)
  have K7 : Keep h0 h7 [a] := (Keep.refl _ _).ext E7
  have F10 := P0.ext E7
  have F11 := P1.ext E7
  have F12 := P2.ext E7
  have F13 := P3.ext E7
  have F14 := P4.ext E7
  have F15 := P5.ext E7
  have Z7 : n0 ≤ h7.size := Nat.le_trans Z0 E7.1
  have F16 : own_Ar Z h7 na cA7 (.object "java/lang/Object") [.null, .null, .null, .null, .null, .null, .null, .null, .null, .null] := own_Ar.new A7 rfl
  refine own_S (mkF m 55 #[rv a, .val (.int 1), .val (.int 0), .unset] [(.ref na), (.ref a)]) st7 ?_
  refine own_S (mkF m 56 #[rv a, .val (.int 1), .val (.int 0), .unset] [(.ref na), (.ref a), (.ref na)]) (fun _ k => XS.dupX1 X7.here hx rfl (hb hby d14_55) rfl rfl rfl k) ?_
  obtain ⟨T17, h17, X17, e17, W17, st17⟩ := putF X7 hx hZ hown (host := "") (Or.inl (own_g hw (i := 53) rfl)) Via.refl e7 F12 F10 (Or.inl (own_g hw (i := 54) rfl)) (own_g hw (i := 32) rfl) (ty := (.array (.object "java/lang/Object"))) (by decide) rfl rfl (g := (mkF m 56 #[rv a, .val (.int 1), .val (.int 0), .unset] [(.ref na), (.ref a), (.ref na)])) rfl rfl (hb hby d14_56)
  refine own_S (mkF m 59 #[rv a, .val (.int 1), .val (.int 0), .unset] [(.ref na)]) st17 ?_
  have F18 := F10.wr W17
  have F19 := F11.other W17 (Or.inr (slot_ne (Or.inl (own_g hw (i := 51) rfl)) (Or.inl (own_g hw (i := 54) rfl)) (by decide) (t := .int) (t' := (.array (.object "java/lang/Object"))) (by decide) (by decide)))
  have F20 := F12.same W17
  have F21 := F13.other W17 (Or.inr (slot_ne (Or.inl (own_g hw (i := 71) rfl)) (Or.inl (own_g hw (i := 54) rfl)) (by decide) (t := .int) (t' := (.array (.object "java/lang/Object"))) (by decide) (by decide)))
  have F22 := F14.other W17 (Ne.symm NE_a_ea)
  have F23 := F15.wr W17
  have F24 := F16.other W17 (Ne.symm n8)
  have N17 := Fr.snoc X17 N6 G_a
  have Z17 : n0 ≤ h17.size := by rw [Wr.size W17]; exact Z7
  have K17 : Keep h0 h17 [a] := K7.wr W17 (Or.inl (List.mem_of_getElem? (i := 0) rfl))
  exact own_ret X17 hx hlk (t := (.array (.object "java/lang/Object"))) hret rfl (Or.inr (Or.inr (Or.inr (Or.inr ⟨rfl, rfl, rfl⟩)))) (hb hby d14_59) (by rw [e17]; exact ⟨na, cA7, rfl, N17, K17, F18, F19, F20, F21, F24, fr_na, O7⟩) (by decide) (by decide)
theorem d13_0 : decode jdk_38_method_7_code 0 = .ok (.aload_n 0, 1) := by decide +kernel
theorem d13_1 : decode jdk_38_method_7_code 1 = .ok (.aload_n 0, 1) := by decide +kernel
theorem d13_2 : decode jdk_38_method_7_code 2 = .ok (.getfield 48, 3) := by decide +kernel
theorem d13_5 : decode jdk_38_method_7_code 5 = .ok (.iconst 1, 1) := by decide +kernel
theorem d13_6 : decode jdk_38_method_7_code 6 = .ok (.iadd, 1) := by decide +kernel
theorem d13_7 : decode jdk_38_method_7_code 7 = .ok (.invokevirtual 69, 3) := by decide +kernel
theorem d13_10 : decode jdk_38_method_7_code 10 = .ok (.areturn, 1) := by decide +kernel
theorem own_pd__I__Ljava_lang_Object_ : parseMethodDescriptor "(I)[Ljava/lang/Object;" = some ⟨[.int], (some (.array (.object "java/lang/Object")))⟩ := by decide +kernel
theorem own_pf_g1 : plainFor own_y13 = true := by first | exact plainFor_of_name (show plainName "java/util/ArrayList" = true by first | (simp [plainName, overriddenIn]; done) | decide +kernel) | decide +kernel
theorem own_ef_g1 (m : MethodId) (y0 : Addr) : entryFrame m #[(.ref y0)] 1 = mkF m 0 #[rv y0] [] := by first | (simp [entryFrame, mkF, argsToLocals, Value.category]; done) | rfl
def own_Qg1 (Z : State) (a : Addr) (ea : Addr) (ke : ClassId) (u1 : Value) (h0 : Heap) (n0 : Nat) (v : Option Value) (h : Heap) (L : List Loc) : Prop := ∃ (na : Addr) (kn : ClassId), v = some (.ref na) ∧ Fr n0 L ∧ Keep h0 h [a] ∧ Exa Z h a "java/util/ArrayList" ∧ Fld Z h a "java/util/AbstractList" "modCount" "I" u1 ∧ Fld Z h a "java/util/ArrayList" "elementData" "[Ljava/lang/Object;" (.ref na) ∧ Fld Z h a "java/util/ArrayList" "size" "I" (.int (0 : Int32)) ∧ own_Ar Z h na kn (.object "java/lang/Object") [.null, .null, .null, .null, .null, .null, .null, .null, .null, .null] ∧ h0.size ≤ na ∧ Ovr Z kn "java/lang/Object"
set_option maxRecDepth 65536 in
set_option maxHeartbeats 40000000 in
theorem own_rmg1 (l : Launch) (Z : State) (a0 : Array Value) (hw : ∀ d ∈ tables_1, d.before a0 Z = true) (ws : List Jvm.Cond) (a : Addr) (ea : Addr) (ke : ClassId) (u1 : Value) (h0 : Heap) (n0 : Nat) (Z0 : n0 ≤ h0.size) (P0 : Exa Z h0 a "java/util/ArrayList") (P1 : Fld Z h0 a "java/util/AbstractList" "modCount" "I" u1) (P2 : Fld Z h0 a "java/util/ArrayList" "elementData" "[Ljava/lang/Object;" (.ref ea)) (P3 : Fld Z h0 a "java/util/ArrayList" "size" "I" (.int (0 : Int32))) (P4 : own_Ar Z h0 ea ke (.object "java/lang/Object") []) (P5 : Sta Z h0 "java/util/ArrayList" "DEFAULTCAPACITY_EMPTY_ELEMENTDATA" "[Ljava/lang/Object;" (.ref ea)) (G_a : n0 ≤ a) (NE_a_ea : a ≠ ea) :
    MetFree l own_y13 (head1 (Jvm.Cond.code own_y13 jdk_38_method_7_code 1 (some (.array (.object "java/lang/Object"))) :: ws) ({ frames := 2, cells := 1, slots := 10, locals := 29 } : Room)) (fun az Uz => az = #[(.ref a)] ∧ Z.Warmed39 Uz.vm ∧ Uz.heap = h0) (fun _ _ _ _ _ => True) (fun _ U o U' => ∃ v L, o = .returned v ∧ own_Qg1 Z a ea ke u1 h0 n0 v U'.heap L ∧ FrameEnd U o U' L ({ frames := 2, cells := 1, slots := 10, locals := 29 } : Room).cells ({ frames := 2, cells := 1, slots := 10, locals := 29 } : Room).slots) := by
  refine MetFree.of_bodySF own_pf_g1 hisR ?_
  intro p e s m args below meth c s₁ Bd hml0 hP hK
  obtain ⟨rfl, hZ, hh⟩ := hP
  have hx := Bd.exec
  have hby := Bd.bytes
  have hml : c.maxLocals = 1 := hml0
  have hown : s.vm.findClass "java/util/ArrayList" = some m.cls := findClass_of_methodNamed Bd.named
  have hnm := (name_of_methodNamed Bd.named Bd.method).1
  have hlk : meth.locks = false := BodyLoose.notSynchronized Bd
  have hret := Bd.returns
  have X0 : Stand p l e ({ frames := 2, cells := 1, slots := 10, locals := 29 } : Room) s m #[(.ref a)] below meth c s₁ [] 0 0 := Stand.of_body Bd
  have e0 : s₁.heap = h0 := by rw [← hh, Bd.state]; rfl
  have N0 := Fr.nil n0
  show own_E p e below (own_K s (own_Qg1 Z a ea ke u1 h0 n0) ({ frames := 2, cells := 1, slots := 10, locals := 29 } : Room).cells ({ frames := 2, cells := 1, slots := 10, locals := 29 } : Room).slots) s₁ (entryFrame m #[(.ref a)] 1)
  refine own_S (mkF m 0 #[rv a] []) (fun _ k => castTop (own_ef_g1 m (a)) k) ?_
  refine own_S (mkF m 1 #[rv a] [(.ref a)]) (fun _ k => XS.aloadN X0.here hx rfl (hb hby d13_0) rfl rfl k) ?_
  refine own_S (mkF m 2 #[rv a] [(.ref a), (.ref a)]) (fun _ k => XS.aloadN X0.here hx rfl (hb hby d13_1) rfl rfl k) ?_
  obtain ⟨T1, X1, e1, st1⟩ := getF X0 hx hZ hown (host := "") (Or.inl (own_g hw (i := 70) rfl)) Via.refl e0 P3 (g := (mkF m 2 #[rv a] [(.ref a), (.ref a)])) rfl rfl (hb hby d13_2)
  refine own_S (mkF m 5 #[rv a] [(.int 0), (.ref a)]) st1 ?_
  refine own_S (mkF m 6 #[rv a] [(.int 1), (.int 0), (.ref a)]) (fun _ k => XS.iconst X1.here hx rfl (hb hby d13_5) k) ?_
  refine own_S (mkF m 7 #[rv a] [(.int 1), (.ref a)]) (fun _ k => XS.iadd X1.here hx rfl (hb hby d13_6) rfl k) ?_
  obtain ⟨cq2, q2a, q2b⟩ := Exa.cell P0
  obtain ⟨_, _, ⟨T2, L2, k2, n2⟩, -, X2, ⟨Lc2, hQ2, l2, y2, z2⟩, st2⟩ := X1.privateBack hx (y := own_y12) hown (mvT hZ (own_g hw (i := 82) rfl)) (mvT hZ (own_g hw (i := 83) rfl)) (own_selP (mvT hZ (own_g hw (i := 32) rfl)) (Cond.privateMethod_at (mvP hZ (own_g hw (i := 84) rfl) (args := #[]))) (mvT hZ (own_g hw (i := 83) rfl)) (by decide)) (Cond.privateMethod_at (mvP hZ (own_g hw (i := 84) rfl) (args := #[]))) (mvT hZ (own_g hw (i := 86) rfl)) (by decide) (backOf (W := 0) (own_rmg2 l Z a0 hw [] (a) (ea) (ke) (u1) h0 n0 Z0 P0 P1 P2 P3 P4 P5 G_a NE_a_ea) hZ (own_g hw (i := 86) rfl) (own_g hw (i := 33) rfl) (by decide) (by decide)) (g := (mkF m 7 #[rv a] [(.int 1), (.ref a)])) rfl (by rw [hml]; rfl) (Steps.refl _) (a := a) (by rw [e1]; exact q2a) q2b (argsL := [(.int 1)]) (rest := []) (lenOf own_pd__I__Ljava_lang_Object_ rfl) rfl (by show 2 * 0 + _ ≤ _; exact Nat.le_of_eq rfl) (hb hby d13_7) (fun _ _ => ⟨rfl, e1, (by decide : 0 + 1 ≤ _), (by decide : 0 + 10 ≤ _)⟩)
  dsimp only [Pt.U, Pt.locs, Pt.cells, Pt.slots] at X2 l2 y2 z2 st2 hQ2
  subst l2 y2 z2
  obtain ⟨na, kn, rfl, N2q, K2q, F3, F4, F5, F6, F7, pp8, pp9⟩ := hQ2
  have N2 := Fr.app N0 N2q
  refine own_S (mkF m 10 #[rv a] [(.ref na)]) (fun _ k => st2.trans k) ?_
  have K2 : Keep h0 T2.heap [a] := (Keep.refl h0 [a]).trans K2q (allS (Or.inl (List.mem_of_getElem? (i := 0) rfl)) all0)
  have n10 : a ≠ na := Nat.ne_of_lt (Nat.lt_of_lt_of_le P0.lt pp8)
  have n11 : ea ≠ na := Nat.ne_of_lt (Nat.lt_of_lt_of_le P4.lt pp8)
  have ge_na : n0 ≤ na := Nat.le_trans Z0 pp8
  have fr_na : h0.size ≤ na := Nat.le_trans (Keep.refl h0 []).1 pp8
  have F12 := P4.keep K2q (ninS (Ne.symm NE_a_ea) nin0)
  have F13 := Sta_keep (n0 := 0) P5 K2q ((own_allS (old_plain P3) (fun _ q => nomatch q)))
  have Z2 : n0 ≤ T2.heap.size := Nat.le_trans Z0 K2q.1
  exact own_ret X2 hx hlk (t := (.array (.object "java/lang/Object"))) hret rfl (Or.inr (Or.inr (Or.inr (Or.inr ⟨rfl, rfl, rfl⟩)))) (hb hby d13_10) ⟨na, kn, rfl, N2, K2, F3, F4, F5, F6, F7, fr_na, pp9⟩ (by decide) (by decide)
theorem d12_0 : decode jdk_38_method_24_code 0 = .ok (.iload_n 3, 1) := by decide +kernel
theorem d12_1 : decode jdk_38_method_24_code 1 = .ok (.aload_n 2, 1) := by decide +kernel
theorem d12_2 : decode jdk_38_method_24_code 2 = .ok (.arraylength, 1) := by decide +kernel
theorem d12_3 : decode jdk_38_method_24_code 3 = .ok (.if_icmp .ne 8, 3) := by decide +kernel
theorem d12_6 : decode jdk_38_method_24_code 6 = .ok (.aload_n 0, 1) := by decide +kernel
theorem d12_7 : decode jdk_38_method_24_code 7 = .ok (.invokevirtual 129, 3) := by decide +kernel
theorem d12_10 : decode jdk_38_method_24_code 10 = .ok (.astore_n 2, 1) := by decide +kernel
theorem d12_11 : decode jdk_38_method_24_code 11 = .ok (.aload_n 2, 1) := by decide +kernel
theorem d12_12 : decode jdk_38_method_24_code 12 = .ok (.iload_n 3, 1) := by decide +kernel
theorem d12_13 : decode jdk_38_method_24_code 13 = .ok (.aload_n 1, 1) := by decide +kernel
theorem d12_14 : decode jdk_38_method_24_code 14 = .ok (.aastore, 1) := by decide +kernel
theorem d12_15 : decode jdk_38_method_24_code 15 = .ok (.aload_n 0, 1) := by decide +kernel
theorem d12_16 : decode jdk_38_method_24_code 16 = .ok (.iload_n 3, 1) := by decide +kernel
theorem d12_17 : decode jdk_38_method_24_code 17 = .ok (.iconst 1, 1) := by decide +kernel
theorem d12_18 : decode jdk_38_method_24_code 18 = .ok (.iadd, 1) := by decide +kernel
theorem d12_19 : decode jdk_38_method_24_code 19 = .ok (.putfield 48, 3) := by decide +kernel
theorem d12_22 : decode jdk_38_method_24_code 22 = .ok (.return_, 1) := by decide +kernel
theorem own_pd____Ljava_lang_Object_ : parseMethodDescriptor "()[Ljava/lang/Object;" = some ⟨[], (some (.array (.object "java/lang/Object")))⟩ := by decide +kernel
theorem own_pf_ap : plainFor own_y14 = true := by first | exact plainFor_of_name (show plainName "java/util/ArrayList" = true by first | (simp [plainName, overriddenIn]; done) | decide +kernel) | decide +kernel
theorem own_ef_ap (m : MethodId) (y0 : Addr) (y1 : Addr) (y2 : Addr) (y3 : Int32) : entryFrame m #[(.ref y0), (.ref y1), (.ref y2), (.int y3)] 4 = mkF m 0 #[rv y0, rv y1, rv y2, iv y3] [] := by first | (simp [entryFrame, mkF, argsToLocals, Value.category]; done) | rfl
def own_Qap (Z : State) (a : Addr) (ea : Addr) (ke : ClassId) (u1 : Value) (b : Addr) (h0 : Heap) (n0 : Nat) (v : Option Value) (h : Heap) (L : List Loc) : Prop := v = none ∧ Fr n0 L ∧ Keep h0 h [a] ∧ Exa Z h a "java/util/ArrayList"
set_option maxRecDepth 65536 in
set_option maxHeartbeats 40000000 in
theorem own_rmap (l : Launch) (Z : State) (a0 : Array Value) (hw : ∀ d ∈ tables_1, d.before a0 Z = true) (ws : List Jvm.Cond) (a : Addr) (ea : Addr) (ke : ClassId) (u1 : Value) (b : Addr) (h0 : Heap) (n0 : Nat) (Z0 : n0 ≤ h0.size) (P0 : Exa Z h0 a "java/util/ArrayList") (P1 : Fld Z h0 a "java/util/AbstractList" "modCount" "I" u1) (P2 : Fld Z h0 a "java/util/ArrayList" "elementData" "[Ljava/lang/Object;" (.ref ea)) (P3 : Fld Z h0 a "java/util/ArrayList" "size" "I" (.int (0 : Int32))) (P4 : own_Ar Z h0 ea ke (.object "java/lang/Object") []) (P5 : Sta Z h0 "java/util/ArrayList" "DEFAULTCAPACITY_EMPTY_ELEMENTDATA" "[Ljava/lang/Object;" (.ref ea)) (P6 : Exa Z h0 b "java/lang/Long") (G_a : n0 ≤ a) (NE_a_ea : a ≠ ea) :
    MetFree l own_y14 (head1 (Jvm.Cond.code own_y14 jdk_38_method_24_code 4 none :: ws) ({ frames := 3, cells := 1, slots := 10, locals := 41 } : Room)) (fun az Uz => az = #[(.ref a), (.ref b), (.ref ea), (.int 0)] ∧ Z.Warmed39 Uz.vm ∧ Uz.heap = h0) (fun _ _ _ _ _ => True) (fun _ U o U' => ∃ v L, o = .returned v ∧ own_Qap Z a ea ke u1 b h0 n0 v U'.heap L ∧ FrameEnd U o U' L ({ frames := 3, cells := 1, slots := 10, locals := 41 } : Room).cells ({ frames := 3, cells := 1, slots := 10, locals := 41 } : Room).slots) := by
  refine MetFree.of_bodySF own_pf_ap hisR ?_
  intro p e s m args below meth c s₁ Bd hml0 hP hK
  obtain ⟨rfl, hZ, hh⟩ := hP
  have hx := Bd.exec
  have hby := Bd.bytes
  have hml : c.maxLocals = 4 := hml0
  have hown : s.vm.findClass "java/util/ArrayList" = some m.cls := findClass_of_methodNamed Bd.named
  have hnm := (name_of_methodNamed Bd.named Bd.method).1
  have hlk : meth.locks = false := BodyLoose.notSynchronized Bd
  have hret := Bd.returns
  have X0 : Stand p l e ({ frames := 3, cells := 1, slots := 10, locals := 41 } : Room) s m #[(.ref a), (.ref b), (.ref ea), (.int 0)] below meth c s₁ [] 0 0 := Stand.of_body Bd
  have e0 : s₁.heap = h0 := by rw [← hh, Bd.state]; rfl
  have N0 := Fr.nil n0
  show own_E p e below (own_K s (own_Qap Z a ea ke u1 b h0 n0) ({ frames := 3, cells := 1, slots := 10, locals := 41 } : Room).cells ({ frames := 3, cells := 1, slots := 10, locals := 41 } : Room).slots) s₁ (entryFrame m #[(.ref a), (.ref b), (.ref ea), (.int 0)] 4)
  refine own_S (mkF m 0 #[rv a, rv b, rv ea, .val (.int 0)] []) (fun _ k => castTop (own_ef_ap m (a) (b) (ea) ((0 : Int32))) k) ?_
  refine own_S (mkF m 1 #[rv a, rv b, rv ea, .val (.int 0)] [(.int 0)]) (fun _ k => XS.iloadN X0.here hx rfl (hb hby d12_0) rfl k) ?_
  refine own_S (mkF m 2 #[rv a, rv b, rv ea, .val (.int 0)] [(.ref ea), (.int 0)]) (fun _ k => XS.aloadN X0.here hx rfl (hb hby d12_1) rfl rfl k) ?_
  refine own_S (mkF m 3 #[rv a, rv b, rv ea, .val (.int 0)] [(.int 0), (.int 0)]) (fun _ k => own_alen X0 hx hZ e0 P4 (g := (mkF m 2 #[rv a, rv b, rv ea, .val (.int 0)] [(.ref ea), (.int 0)])) rfl rfl (hb hby d12_2) _ k) ?_
  have hc1 : (0 : Int32) = (0 : Int32) := by decide
  refine own_S (mkF m 6 #[rv a, rv b, rv ea, .val (.int 0)] []) (fun _ k => XS.icmpNo X0.here hx rfl (hb hby d12_3) rfl (teq hc1).2 k) ?_
  refine own_S (mkF m 7 #[rv a, rv b, rv ea, .val (.int 0)] [(.ref a)]) (fun _ k => XS.aloadN X0.here hx rfl (hb hby d12_6) rfl rfl k) ?_
  obtain ⟨cq2, q2a, q2b⟩ := Exa.cell P0
  obtain ⟨_, _, ⟨T2, L2, k2, n2⟩, -, X2, ⟨Lc2, hQ2, l2, y2, z2⟩, st2⟩ := X0.privateBack hx (y := own_y13) hown (mvT hZ (own_g hw (i := 77) rfl)) (mvT hZ (own_g hw (i := 78) rfl)) (own_selP (mvT hZ (own_g hw (i := 32) rfl)) (Cond.privateMethod_at (mvP hZ (own_g hw (i := 79) rfl) (args := #[]))) (mvT hZ (own_g hw (i := 78) rfl)) (by decide)) (Cond.privateMethod_at (mvP hZ (own_g hw (i := 79) rfl) (args := #[]))) (mvT hZ (own_g hw (i := 81) rfl)) (by decide) (backOf (W := 0) (own_rmg1 l Z a0 hw [] (a) (ea) (ke) (u1) h0 n0 Z0 P0 P1 P2 P3 P4 P5 G_a NE_a_ea) hZ (own_g hw (i := 81) rfl) (own_g hw (i := 33) rfl) (by decide) (by decide)) (g := (mkF m 7 #[rv a, rv b, rv ea, .val (.int 0)] [(.ref a)])) rfl (by rw [hml]; rfl) (Steps.refl _) (a := a) (by rw [e0]; exact q2a) q2b (argsL := []) (rest := []) (lenOf own_pd____Ljava_lang_Object_ rfl) rfl (by show 2 * 0 + _ ≤ _; exact Nat.le_of_eq rfl) (hb hby d12_7) (fun _ _ => ⟨rfl, e0, (by decide : 0 + 1 ≤ _), (by decide : 0 + 10 ≤ _)⟩)
  dsimp only [Pt.U, Pt.locs, Pt.cells, Pt.slots] at X2 l2 y2 z2 st2 hQ2
  subst l2 y2 z2
  obtain ⟨na, kn, rfl, N2q, K2q, F3, F4, F5, F6, F7, pp8, pp9⟩ := hQ2
  have N2 := Fr.app N0 N2q
  refine own_S (mkF m 10 #[rv a, rv b, rv ea, .val (.int 0)] [(.ref na)]) (fun _ k => st2.trans k) ?_
  have K2 : Keep h0 T2.heap [a] := (Keep.refl h0 [a]).trans K2q (allS (Or.inl (List.mem_of_getElem? (i := 0) rfl)) all0)
  have n10 : a ≠ na := Nat.ne_of_lt (Nat.lt_of_lt_of_le P0.lt pp8)
  have n11 : ea ≠ na := Nat.ne_of_lt (Nat.lt_of_lt_of_le P4.lt pp8)
  have n12 : b ≠ na := Nat.ne_of_lt (Nat.lt_of_lt_of_le P6.lt pp8)
  have ge_na : n0 ≤ na := Nat.le_trans Z0 pp8
  have fr_na : h0.size ≤ na := Nat.le_trans (Keep.refl h0 []).1 pp8
  have F13 := P4.keep K2q (ninS (Ne.symm NE_a_ea) nin0)
  have F14 := Sta_keep (n0 := 0) P5 K2q ((own_allS (old_plain P3) (fun _ q => nomatch q)))
  have F15 := P6.keep K2q
  have Z2 : n0 ≤ T2.heap.size := Nat.le_trans Z0 K2q.1
  refine own_S (mkF m 11 #[rv a, rv b, rv na, .val (.int 0)] []) (fun _ k => XS.astoreN X2.here hx rfl (hb hby d12_10) rfl rfl (l' := #[rv a, rv b, rv na, .val (.int 0)]) rfl k) ?_
  refine own_S (mkF m 12 #[rv a, rv b, rv na, .val (.int 0)] [(.ref na)]) (fun _ k => XS.aloadN X2.here hx rfl (hb hby d12_11) rfl rfl k) ?_
  refine own_S (mkF m 13 #[rv a, rv b, rv na, .val (.int 0)] [(.int 0), (.ref na)]) (fun _ k => XS.iloadN X2.here hx rfl (hb hby d12_12) rfl k) ?_
  refine own_S (mkF m 14 #[rv a, rv b, rv na, .val (.int 0)] [(.ref b), (.int 0), (.ref na)]) (fun _ k => XS.aloadN X2.here hx rfl (hb hby d12_13) rfl rfl k) ?_
  obtain ⟨T16, h16, X16, e16, W16, AR16, st16⟩ := own_stR (j := (0 : Int32)) X2 hx hZ rfl F7 pp9 (Ins.of_exa F15 (own_g hw (i := 93) rfl)) (by decide) (show (0 : Nat) < 10 from by decide) (g := (mkF m 14 #[rv a, rv b, rv na, .val (.int 0)] [(.ref b), (.int 0), (.ref na)])) rfl rfl (hb hby d12_14)
  refine own_S (mkF m 15 #[rv a, rv b, rv na, .val (.int 0)] []) st16 ?_
  have F17 := F13.other W16 n11
  have F18 := F14.wr W16
  have F19 := F15.wr W16
  have F20 := F3.wr W16
  have F21 := F4.other W16 (Or.inl n10)
  have F22 := F5.other W16 (Or.inl n10)
  have F23 := F6.other W16 (Or.inl n10)
  have F24 : own_Ar Z h16 na kn (.object "java/lang/Object") [(.ref b), .null, .null, .null, .null, .null, .null, .null, .null, .null] := AR16
  have N16 := Fr.snoc X16 N2 ge_na
  have Z16 : n0 ≤ h16.size := by rw [Wr.size W16]; exact Z2
  have K16 : Keep h0 h16 [a] := K2.wr W16 (Or.inr fr_na)
  refine own_S (mkF m 16 #[rv a, rv b, rv na, .val (.int 0)] [(.ref a)]) (fun _ k => XS.aloadN X16.here hx rfl (hb hby d12_15) rfl rfl k) ?_
  refine own_S (mkF m 17 #[rv a, rv b, rv na, .val (.int 0)] [(.int 0), (.ref a)]) (fun _ k => XS.iloadN X16.here hx rfl (hb hby d12_16) rfl k) ?_
  refine own_S (mkF m 18 #[rv a, rv b, rv na, .val (.int 0)] [(.int 1), (.int 0), (.ref a)]) (fun _ k => XS.iconst X16.here hx rfl (hb hby d12_17) k) ?_
  refine own_S (mkF m 19 #[rv a, rv b, rv na, .val (.int 0)] [(.int 1), (.ref a)]) (fun _ k => XS.iadd X16.here hx rfl (hb hby d12_18) rfl k) ?_
  obtain ⟨T25, h25, X25, e25, W25, st25⟩ := putF X16 hx hZ hown (host := "") (Or.inl (own_g hw (i := 70) rfl)) Via.refl e16 F23 F20 (Or.inl (own_g hw (i := 71) rfl)) (own_g hw (i := 32) rfl) (ty := .int) (by decide) rfl rfl (g := (mkF m 19 #[rv a, rv b, rv na, .val (.int 0)] [(.int 1), (.ref a)])) rfl rfl (hb hby d12_19)
  refine own_S (mkF m 22 #[rv a, rv b, rv na, .val (.int 0)] []) st25 ?_
  have F26 := F17.other W25 (Ne.symm NE_a_ea)
  have F27 := F18.wr W25
  have F28 := F19.wr W25
  have F29 := F20.wr W25
  have F30 := F21.other W25 (Or.inr (slot_ne (Or.inl (own_g hw (i := 51) rfl)) (Or.inl (own_g hw (i := 71) rfl)) (by decide) (t := .int) (t' := .int) (by decide) (by decide)))
  have F31 := F22.other W25 (Or.inr (slot_ne (Or.inl (own_g hw (i := 54) rfl)) (Or.inl (own_g hw (i := 71) rfl)) (by decide) (t := (.array (.object "java/lang/Object"))) (t' := .int) (by decide) (by decide)))
  have F32 := F23.same W25
  have F33 := F24.other W25 (Ne.symm n10)
  have N25 := Fr.snoc X25 N16 G_a
  have Z25 : n0 ≤ h25.size := by rw [Wr.size W25]; exact Z16
  have K25 : Keep h0 h25 [a] := K16.wr W25 (Or.inl (List.mem_of_getElem? (i := 0) rfl))
  exact own_ret0 X25 hx hlk hret (hb hby d12_22) (by rw [e25]; exact ⟨rfl, N25, K25, F29⟩) (by decide) (by decide)
theorem d11_0 : decode jdk_38_method_25_code 0 = .ok (.aload_n 0, 1) := by decide +kernel
theorem d11_1 : decode jdk_38_method_25_code 1 = .ok (.dup, 1) := by decide +kernel
theorem d11_2 : decode jdk_38_method_25_code 2 = .ok (.getfield 63, 3) := by decide +kernel
theorem d11_5 : decode jdk_38_method_25_code 5 = .ok (.iconst 1, 1) := by decide +kernel
theorem d11_6 : decode jdk_38_method_25_code 6 = .ok (.iadd, 1) := by decide +kernel
theorem d11_7 : decode jdk_38_method_25_code 7 = .ok (.putfield 63, 3) := by decide +kernel
theorem d11_10 : decode jdk_38_method_25_code 10 = .ok (.aload_n 0, 1) := by decide +kernel
theorem d11_11 : decode jdk_38_method_25_code 11 = .ok (.aload_n 1, 1) := by decide +kernel
theorem d11_12 : decode jdk_38_method_25_code 12 = .ok (.aload_n 0, 1) := by decide +kernel
theorem d11_13 : decode jdk_38_method_25_code 13 = .ok (.getfield 9, 3) := by decide +kernel
theorem d11_16 : decode jdk_38_method_25_code 16 = .ok (.aload_n 0, 1) := by decide +kernel
theorem d11_17 : decode jdk_38_method_25_code 17 = .ok (.getfield 48, 3) := by decide +kernel
theorem d11_20 : decode jdk_38_method_25_code 20 = .ok (.invokevirtual 131, 3) := by decide +kernel
theorem d11_23 : decode jdk_38_method_25_code 23 = .ok (.iconst 1, 1) := by decide +kernel
theorem d11_24 : decode jdk_38_method_25_code 24 = .ok (.ireturn, 1) := by decide +kernel
theorem own_pd__Ljava_lang_Object__Ljava_lang_Object_I_V : parseMethodDescriptor "(Ljava/lang/Object;[Ljava/lang/Object;I)V" = some ⟨[(.object "java/lang/Object"), (.array (.object "java/lang/Object")), .int], none⟩ := by decide +kernel
theorem own_pf_aa : plainFor own_y15 = true := by first | exact plainFor_of_name (show plainName "java/util/ArrayList" = true by first | (simp [plainName, overriddenIn]; done) | decide +kernel) | decide +kernel
theorem own_ef_aa (m : MethodId) (y0 : Addr) (y1 : Addr) : entryFrame m #[(.ref y0), (.ref y1)] 2 = mkF m 0 #[rv y0, rv y1] [] := by first | (simp [entryFrame, mkF, argsToLocals, Value.category]; done) | rfl
def own_Qaa (Z : State) (a : Addr) (ea : Addr) (ke : ClassId) (b : Addr) (h0 : Heap) (n0 : Nat) (v : Option Value) (h : Heap) (L : List Loc) : Prop := v = some (.int (1 : Int32)) ∧ Fr n0 L ∧ Keep h0 h [a] ∧ Exa Z h a "java/util/ArrayList"
set_option maxRecDepth 65536 in
set_option maxHeartbeats 40000000 in
theorem own_rmaa (l : Launch) (Z : State) (a0 : Array Value) (hw : ∀ d ∈ tables_1, d.before a0 Z = true) (ws : List Jvm.Cond) (a : Addr) (ea : Addr) (ke : ClassId) (b : Addr) (h0 : Heap) (n0 : Nat) (Z0 : n0 ≤ h0.size) (P0 : Exa Z h0 a "java/util/ArrayList") (P1 : Fld Z h0 a "java/util/AbstractList" "modCount" "I" (.int (0 : Int32))) (P2 : Fld Z h0 a "java/util/ArrayList" "elementData" "[Ljava/lang/Object;" (.ref ea)) (P3 : Fld Z h0 a "java/util/ArrayList" "size" "I" (.int (0 : Int32))) (P4 : own_Ar Z h0 ea ke (.object "java/lang/Object") []) (P5 : Sta Z h0 "java/util/ArrayList" "DEFAULTCAPACITY_EMPTY_ELEMENTDATA" "[Ljava/lang/Object;" (.ref ea)) (P6 : Exa Z h0 b "java/lang/Long") (G_a : n0 ≤ a) (NE_a_ea : a ≠ ea) :
    MetFree l own_y15 (head1 (Jvm.Cond.code own_y15 jdk_38_method_25_code 2 (some .boolean) :: ws) ({ frames := 4, cells := 1, slots := 10, locals := 56 } : Room)) (fun az Uz => az = #[(.ref a), (.ref b)] ∧ Z.Warmed39 Uz.vm ∧ Uz.heap = h0) (fun _ _ _ _ _ => True) (fun _ U o U' => ∃ v L, o = .returned v ∧ own_Qaa Z a ea ke b h0 n0 v U'.heap L ∧ FrameEnd U o U' L ({ frames := 4, cells := 1, slots := 10, locals := 56 } : Room).cells ({ frames := 4, cells := 1, slots := 10, locals := 56 } : Room).slots) := by
  refine MetFree.of_bodySF own_pf_aa hisR ?_
  intro p e s m args below meth c s₁ Bd hml0 hP hK
  obtain ⟨rfl, hZ, hh⟩ := hP
  have hx := Bd.exec
  have hby := Bd.bytes
  have hml : c.maxLocals = 2 := hml0
  have hown : s.vm.findClass "java/util/ArrayList" = some m.cls := findClass_of_methodNamed Bd.named
  have hnm := (name_of_methodNamed Bd.named Bd.method).1
  have hlk : meth.locks = false := BodyLoose.notSynchronized Bd
  have hret := Bd.returns
  have X0 : Stand p l e ({ frames := 4, cells := 1, slots := 10, locals := 56 } : Room) s m #[(.ref a), (.ref b)] below meth c s₁ [] 0 0 := Stand.of_body Bd
  have e0 : s₁.heap = h0 := by rw [← hh, Bd.state]; rfl
  have N0 := Fr.nil n0
  show own_E p e below (own_K s (own_Qaa Z a ea ke b h0 n0) ({ frames := 4, cells := 1, slots := 10, locals := 56 } : Room).cells ({ frames := 4, cells := 1, slots := 10, locals := 56 } : Room).slots) s₁ (entryFrame m #[(.ref a), (.ref b)] 2)
  refine own_S (mkF m 0 #[rv a, rv b] []) (fun _ k => castTop (own_ef_aa m (a) (b)) k) ?_
  refine own_S (mkF m 1 #[rv a, rv b] [(.ref a)]) (fun _ k => XS.aloadN X0.here hx rfl (hb hby d11_0) rfl rfl k) ?_
  refine own_S (mkF m 2 #[rv a, rv b] [(.ref a), (.ref a)]) (fun _ k => XS.dup X0.here hx rfl (hb hby d11_1) rfl rfl k) ?_
  obtain ⟨T1, X1, e1, st1⟩ := getF X0 hx hZ hown (host := "") (Or.inl (own_g hw (i := 68) rfl)) (Via.of (own_g hw (i := 69) rfl)) e0 P1 (g := (mkF m 2 #[rv a, rv b] [(.ref a), (.ref a)])) rfl rfl (hb hby d11_2)
  refine own_S (mkF m 5 #[rv a, rv b] [(.int 0), (.ref a)]) st1 ?_
  refine own_S (mkF m 6 #[rv a, rv b] [(.int 1), (.int 0), (.ref a)]) (fun _ k => XS.iconst X1.here hx rfl (hb hby d11_5) k) ?_
  refine own_S (mkF m 7 #[rv a, rv b] [(.int 1), (.ref a)]) (fun _ k => XS.iadd X1.here hx rfl (hb hby d11_6) rfl k) ?_
  obtain ⟨T2, h2, X2, e2, W2, st2⟩ := putF X1 hx hZ hown (host := "") (Or.inl (own_g hw (i := 68) rfl)) (Via.of (own_g hw (i := 69) rfl)) e1 P1 P0 (Or.inl (own_g hw (i := 51) rfl)) (own_g hw (i := 32) rfl) (ty := .int) (by decide) rfl rfl (g := (mkF m 7 #[rv a, rv b] [(.int 1), (.ref a)])) rfl rfl (hb hby d11_7)
  refine own_S (mkF m 10 #[rv a, rv b] []) st2 ?_
  have F3 := P0.wr W2
  have F4 := P1.same W2
  have F5 := P2.other W2 (Or.inr (slot_ne (Or.inl (own_g hw (i := 54) rfl)) (Or.inl (own_g hw (i := 51) rfl)) (by decide) (t := (.array (.object "java/lang/Object"))) (t' := .int) (by decide) (by decide)))
  have F6 := P3.other W2 (Or.inr (slot_ne (Or.inl (own_g hw (i := 71) rfl)) (Or.inl (own_g hw (i := 51) rfl)) (by decide) (t := .int) (t' := .int) (by decide) (by decide)))
  have F7 := P4.other W2 (Ne.symm NE_a_ea)
  have F8 := P5.wr W2
  have F9 := P6.wr W2
  have N2 := Fr.snoc X2 N0 G_a
  have Z2 : n0 ≤ h2.size := by rw [Wr.size W2]; exact Z0
  have K2 : Keep h0 h2 [a] := (Keep.refl _ _).wr W2 (Or.inl (List.mem_of_getElem? (i := 0) rfl))
  refine own_S (mkF m 11 #[rv a, rv b] [(.ref a)]) (fun _ k => XS.aloadN X2.here hx rfl (hb hby d11_10) rfl rfl k) ?_
  refine own_S (mkF m 12 #[rv a, rv b] [(.ref b), (.ref a)]) (fun _ k => XS.aloadN X2.here hx rfl (hb hby d11_11) rfl rfl k) ?_
  refine own_S (mkF m 13 #[rv a, rv b] [(.ref a), (.ref b), (.ref a)]) (fun _ k => XS.aloadN X2.here hx rfl (hb hby d11_12) rfl rfl k) ?_
  obtain ⟨T10, X10, e10, st10⟩ := getF X2 hx hZ hown (host := "") (Or.inl (own_g hw (i := 53) rfl)) Via.refl e2 F5 (g := (mkF m 13 #[rv a, rv b] [(.ref a), (.ref b), (.ref a)])) rfl rfl (hb hby d11_13)
  refine own_S (mkF m 16 #[rv a, rv b] [(.ref ea), (.ref b), (.ref a)]) st10 ?_
  refine own_S (mkF m 17 #[rv a, rv b] [(.ref a), (.ref ea), (.ref b), (.ref a)]) (fun _ k => XS.aloadN X10.here hx rfl (hb hby d11_16) rfl rfl k) ?_
  obtain ⟨T11, X11, e11, st11⟩ := getF X10 hx hZ hown (host := "") (Or.inl (own_g hw (i := 70) rfl)) Via.refl e10 F6 (g := (mkF m 17 #[rv a, rv b] [(.ref a), (.ref ea), (.ref b), (.ref a)])) rfl rfl (hb hby d11_17)
  refine own_S (mkF m 20 #[rv a, rv b] [(.int 0), (.ref ea), (.ref b), (.ref a)]) st11 ?_
  obtain ⟨cq12, q12a, q12b⟩ := Exa.cell F3
  obtain ⟨_, _, ⟨T12, L12, k12, n12⟩, -, X12, ⟨Lc12, hQ12, l12, y12, z12⟩, st12⟩ := X11.privateBack hx (y := own_y14) hown (mvT hZ (own_g hw (i := 72) rfl)) (mvT hZ (own_g hw (i := 73) rfl)) (own_selP (mvT hZ (own_g hw (i := 32) rfl)) (Cond.privateMethod_at (mvP hZ (own_g hw (i := 74) rfl) (args := #[]))) (mvT hZ (own_g hw (i := 73) rfl)) (by decide)) (Cond.privateMethod_at (mvP hZ (own_g hw (i := 74) rfl) (args := #[]))) (mvT hZ (own_g hw (i := 76) rfl)) (by decide) (backOf (W := 0) (own_rmap l Z a0 hw [] (a) (ea) (ke) ((.int 1)) (b) h2 n0 Z2 F3 F4 F5 F6 F7 F8 F9 G_a NE_a_ea) hZ (own_g hw (i := 76) rfl) (own_g hw (i := 33) rfl) (by decide) (by decide)) (g := (mkF m 20 #[rv a, rv b] [(.int 0), (.ref ea), (.ref b), (.ref a)])) rfl (by rw [hml]; rfl) (Steps.refl _) (a := a) (by rw [e11]; exact q12a) q12b (argsL := [(.ref b), (.ref ea), (.int 0)]) (rest := []) (lenOf own_pd__Ljava_lang_Object__Ljava_lang_Object_I_V rfl) rfl (by show 2 * 0 + _ ≤ _; exact Nat.le_of_eq rfl) (hb hby d11_20) (fun _ _ => ⟨rfl, e11, (by decide : 0 + 1 ≤ _), (by decide : 0 + 10 ≤ _)⟩)
  dsimp only [Pt.U, Pt.locs, Pt.cells, Pt.slots] at X12 l12 y12 z12 st12 hQ12
  subst l12 y12 z12
  obtain ⟨rfl, N12q, K12q, F13⟩ := hQ12
  have N12 := Fr.app N2 N12q
  refine own_S (mkF m 23 #[rv a, rv b] []) (fun _ k => st12.trans k) ?_
  have K12 : Keep h0 T12.heap [a] := K2.trans K12q (allS (Or.inl (List.mem_of_getElem? (i := 0) rfl)) all0)
  have F14 := F7.keep K12q (ninS (Ne.symm NE_a_ea) nin0)
  have F15 := Sta_keep (n0 := 0) F8 K12q ((own_allS (old_plain F6) (fun _ q => nomatch q)))
  have F16 := F9.keep K12q
  have Z12 : n0 ≤ T12.heap.size := Nat.le_trans Z2 K12q.1
  refine own_S (mkF m 24 #[rv a, rv b] [(.int 1)]) (fun _ k => XS.iconst X12.here hx rfl (hb hby d11_23) k) ?_
  exact own_retN X12 hx hlk (t := .boolean) hret (by simp) (hb hby d11_24) ⟨rfl, N12, K12, F13⟩ (by decide) (by decide)
theorem d20_0 : decode jdk_30_method_1_code 0 = .ok (.aload_n 0, 1) := by decide +kernel
theorem d20_1 : decode jdk_30_method_1_code 1 = .ok (.invokespecial 1, 3) := by decide +kernel
theorem d20_4 : decode jdk_30_method_1_code 4 = .ok (.return_, 1) := by decide +kernel
theorem own_pf_rc : plainFor own_y16 = true := by first | exact plainFor_of_name (show plainName "java/lang/Record" = true by first | (simp [plainName, overriddenIn]; done) | decide +kernel) | decide +kernel
theorem own_ef_rc (m : MethodId) (y0 : Addr) : entryFrame m #[(.ref y0)] 1 = mkF m 0 #[rv y0] [] := by first | (simp [entryFrame, mkF, argsToLocals, Value.category]; done) | rfl
def own_Qrc (Z : State) (a : Addr) (h0 : Heap) (n0 : Nat) (v : Option Value) (h : Heap) (L : List Loc) : Prop := v = none ∧ Fr n0 L ∧ h = h0
set_option maxRecDepth 65536 in
set_option maxHeartbeats 40000000 in
theorem own_rmrc (l : Launch) (Z : State) (a0 : Array Value) (hw : ∀ d ∈ tables_1, d.before a0 Z = true) (ws : List Jvm.Cond) (a : Addr) (h0 : Heap) (n0 : Nat) (Z0 : n0 ≤ h0.size)  :
    MetFree l own_y16 (head1 (Jvm.Cond.code own_y16 jdk_30_method_1_code 1 none :: ws) ({ frames := 1, cells := 0, slots := 0, locals := 12 } : Room)) (fun az Uz => az = #[(.ref a)] ∧ Z.Warmed39 Uz.vm ∧ Uz.heap = h0) (fun _ _ _ _ _ => True) (fun _ U o U' => ∃ v L, o = .returned v ∧ own_Qrc Z a h0 n0 v U'.heap L ∧ FrameEnd U o U' L ({ frames := 1, cells := 0, slots := 0, locals := 12 } : Room).cells ({ frames := 1, cells := 0, slots := 0, locals := 12 } : Room).slots) := by
  refine MetFree.of_bodySF own_pf_rc hisR ?_
  intro p e s m args below meth c s₁ Bd hml0 hP hK
  obtain ⟨rfl, hZ, hh⟩ := hP
  have hx := Bd.exec
  have hby := Bd.bytes
  have hml : c.maxLocals = 1 := hml0
  have hown : s.vm.findClass "java/lang/Record" = some m.cls := findClass_of_methodNamed Bd.named
  have hnm := (name_of_methodNamed Bd.named Bd.method).1
  have hlk : meth.locks = false := BodyLoose.notSynchronized Bd
  have hret := Bd.returns
  have X0 : Stand p l e ({ frames := 1, cells := 0, slots := 0, locals := 12 } : Room) s m #[(.ref a)] below meth c s₁ [] 0 0 := Stand.of_body Bd
  have e0 : s₁.heap = h0 := by rw [← hh, Bd.state]; rfl
  have N0 := Fr.nil n0
  show own_E p e below (own_K s (own_Qrc Z a h0 n0) ({ frames := 1, cells := 0, slots := 0, locals := 12 } : Room).cells ({ frames := 1, cells := 0, slots := 0, locals := 12 } : Room).slots) s₁ (entryFrame m #[(.ref a)] 1)
  refine own_S (mkF m 0 #[rv a] []) (fun _ k => castTop (own_ef_rc m (a)) k) ?_
  refine own_S (mkF m 1 #[rv a] [(.ref a)]) (fun _ k => XS.aloadN X0.here hx rfl (hb hby d20_0) rfl rfl k) ?_
  obtain ⟨T1, X1, e1, st1⟩ := initO X0 hx hZ hown (own_g hw (i := 131) rfl) (own_g hw (i := 13) rfl) (own_g hw (i := 14) rfl) e0 (g := (mkF m 1 #[rv a] [(.ref a)])) rfl (by rw [hml]; rfl) rfl (hb hby d20_1) (by decide) (W := 0) (by show 2 * 0 + _ ≤ _; exact Nat.le_of_eq rfl) (by decide)
  refine own_S (mkF m 4 #[rv a] []) st1 ?_
  exact own_ret0 X1 hx hlk hret (hb hby d20_4) (by rw [e1]; exact ⟨rfl, N0, rfl⟩) (by decide) (by decide)
theorem d21_0 : decode prog_35_method_1_code 0 = .ok (.aload_n 0, 1) := by decide +kernel
theorem d21_1 : decode prog_35_method_1_code 1 = .ok (.invokespecial 1, 3) := by decide +kernel
theorem d21_4 : decode prog_35_method_1_code 4 = .ok (.aload_n 0, 1) := by decide +kernel
theorem d21_5 : decode prog_35_method_1_code 5 = .ok (.aload_n 1, 1) := by decide +kernel
theorem d21_6 : decode prog_35_method_1_code 6 = .ok (.putfield 7, 3) := by decide +kernel
theorem d21_9 : decode prog_35_method_1_code 9 = .ok (.return_, 1) := by decide +kernel
theorem own_pf_bi : plainFor own_y17 = true := by first | exact plainFor_of_name (show plainName "com/example/lockstep/lockstep/history/Edn$BigInt" = true by first | (simp [plainName, overriddenIn]; done) | decide +kernel) | decide +kernel
theorem own_ef_bi (m : MethodId) (y0 : Addr) (y1 : Addr) : entryFrame m #[(.ref y0), (.ref y1)] 2 = mkF m 0 #[rv y0, rv y1] [] := by first | (simp [entryFrame, mkF, argsToLocals, Value.category]; done) | rfl
def own_Qbi (Z : State) (a : Addr) (b : Addr) (u1 : Value) (h0 : Heap) (n0 : Nat) (v : Option Value) (h : Heap) (L : List Loc) : Prop := v = none ∧ Fr n0 L ∧ Keep h0 h [a] ∧ Exa Z h a "com/example/lockstep/lockstep/history/Edn$BigInt"
set_option maxRecDepth 65536 in
set_option maxHeartbeats 40000000 in
theorem own_rmbi (l : Launch) (Z : State) (a0 : Array Value) (hw : ∀ d ∈ tables_1, d.before a0 Z = true) (ws : List Jvm.Cond) (a : Addr) (b : Addr) (u1 : Value) (h0 : Heap) (n0 : Nat) (Z0 : n0 ≤ h0.size) (P0 : Exa Z h0 a "com/example/lockstep/lockstep/history/Edn$BigInt") (P1 : Fld Z h0 a "com/example/lockstep/lockstep/history/Edn$BigInt" "digits" "Ljava/lang/String;" u1) (G_a : n0 ≤ a) :
    MetFree l own_y17 (head1 (Jvm.Cond.code own_y17 prog_35_method_1_code 2 none :: ws) ({ frames := 2, cells := 0, slots := 0, locals := 24 } : Room)) (fun az Uz => az = #[(.ref a), (.ref b)] ∧ Z.Warmed39 Uz.vm ∧ Uz.heap = h0) (fun _ _ _ _ _ => True) (fun _ U o U' => ∃ v L, o = .returned v ∧ own_Qbi Z a b u1 h0 n0 v U'.heap L ∧ FrameEnd U o U' L ({ frames := 2, cells := 0, slots := 0, locals := 24 } : Room).cells ({ frames := 2, cells := 0, slots := 0, locals := 24 } : Room).slots) := by
  refine MetFree.of_bodySF own_pf_bi hisR ?_
  intro p e s m args below meth c s₁ Bd hml0 hP hK
  obtain ⟨rfl, hZ, hh⟩ := hP
  have hx := Bd.exec
  have hby := Bd.bytes
  have hml : c.maxLocals = 2 := hml0
  have hown : s.vm.findClass "com/example/lockstep/lockstep/history/Edn$BigInt" = some m.cls := findClass_of_methodNamed Bd.named
  have hnm := (name_of_methodNamed Bd.named Bd.method).1
  have hlk : meth.locks = false := BodyLoose.notSynchronized Bd
  have hret := Bd.returns
  have X0 : Stand p l e ({ frames := 2, cells := 0, slots := 0, locals := 24 } : Room) s m #[(.ref a), (.ref b)] below meth c s₁ [] 0 0 := Stand.of_body Bd
  have e0 : s₁.heap = h0 := by rw [← hh, Bd.state]; rfl
  have N0 := Fr.nil n0
  show own_E p e below (own_K s (own_Qbi Z a b u1 h0 n0) ({ frames := 2, cells := 0, slots := 0, locals := 24 } : Room).cells ({ frames := 2, cells := 0, slots := 0, locals := 24 } : Room).slots) s₁ (entryFrame m #[(.ref a), (.ref b)] 2)
  refine own_S (mkF m 0 #[rv a, rv b] []) (fun _ k => castTop (own_ef_bi m (a) (b)) k) ?_
  refine own_S (mkF m 1 #[rv a, rv b] [(.ref a)]) (fun _ k => XS.aloadN X0.here hx rfl (hb hby d21_0) rfl rfl k) ?_
  obtain ⟨_, _, ⟨T1, L1, k1, n1⟩, -, X1, ⟨Lc1, hQ1, l1, y1, z1⟩, st1⟩ := X0.specialBack hx (y := own_y16) rfl hown (mvT hZ (own_g hw (i := 144) rfl)) (mvT hZ (own_g hw (i := 127) rfl)) (mvT hZ (own_g hw (i := 130) rfl)) (by decide) (backOf (W := 0) (own_rmrc l Z a0 hw [] (a) h0 n0 Z0 ) hZ (own_g hw (i := 130) rfl) (own_g hw (i := 129) rfl) (by decide) (by decide)) (g := (mkF m 1 #[rv a, rv b] [(.ref a)])) rfl (by rw [hml]; rfl) (Steps.refl _) (a := a) (argsL := []) (rest := []) (lenOf own_pd___V rfl) rfl (by show 2 * 0 + _ ≤ _; exact Nat.le_of_eq rfl) (hb hby d21_1) (fun _ _ => ⟨rfl, e0, (by decide : 0 + 0 ≤ _), (by decide : 0 + 0 ≤ _)⟩)
  dsimp only [Pt.U, Pt.locs, Pt.cells, Pt.slots] at X1 l1 y1 z1 st1 hQ1
  subst l1 y1 z1
  obtain ⟨rfl, N1q, e1⟩ := hQ1
  have N1 := Fr.app N0 N1q
  refine own_S (mkF m 4 #[rv a, rv b] []) (fun _ k => st1.trans k) ?_
  refine own_S (mkF m 5 #[rv a, rv b] [(.ref a)]) (fun _ k => XS.aloadN X1.here hx rfl (hb hby d21_4) rfl rfl k) ?_
  refine own_S (mkF m 6 #[rv a, rv b] [(.ref b), (.ref a)]) (fun _ k => XS.aloadN X1.here hx rfl (hb hby d21_5) rfl rfl k) ?_
  obtain ⟨T2, h2, X2, e2, W2, st2⟩ := putF X1 hx hZ hown (host := "") (Or.inl (own_g hw (i := 145) rfl)) Via.refl e1 P1 P0 (Or.inr ⟨(own_g hw (i := 146) rfl), rfl, hnm⟩) (own_g hw (i := 139) rfl) (ty := (.object "java/lang/String")) (by decide) rfl rfl (g := (mkF m 6 #[rv a, rv b] [(.ref b), (.ref a)])) rfl rfl (hb hby d21_6)
  refine own_S (mkF m 9 #[rv a, rv b] []) st2 ?_
  have F3 := P0.wr W2
  have F4 := P1.same W2
  have N2 := Fr.snoc X2 N1 G_a
  have Z2 : n0 ≤ h2.size := by rw [Wr.size W2]; exact Z0
  have K2 : Keep h0 h2 [a] := (Keep.refl _ _).wr W2 (Or.inl (List.mem_of_getElem? (i := 0) rfl))
  exact own_ret0 X2 hx hlk hret (hb hby d21_9) (by rw [e2]; exact ⟨rfl, N2, K2, F3⟩) (by decide) (by decide)
theorem d19_0 : decode prog_36_method_1_code 0 = .ok (.aload_n 0, 1) := by decide +kernel
theorem d19_1 : decode prog_36_method_1_code 1 = .ok (.invokespecial 1, 3) := by decide +kernel
theorem d19_4 : decode prog_36_method_1_code 4 = .ok (.aload_n 0, 1) := by decide +kernel
theorem d19_5 : decode prog_36_method_1_code 5 = .ok (.aload_n 1, 1) := by decide +kernel
theorem d19_6 : decode prog_36_method_1_code 6 = .ok (.putfield 7, 3) := by decide +kernel
theorem d19_9 : decode prog_36_method_1_code 9 = .ok (.aload_n 0, 1) := by decide +kernel
theorem d19_10 : decode prog_36_method_1_code 10 = .ok (.lload_n 2, 1) := by decide +kernel
theorem d19_11 : decode prog_36_method_1_code 11 = .ok (.putfield 13, 3) := by decide +kernel
theorem d19_14 : decode prog_36_method_1_code 14 = .ok (.return_, 1) := by decide +kernel
theorem own_pf_de : plainFor own_y18 = true := by first | exact plainFor_of_name (show plainName "com/example/lockstep/lockstep/history/Edn$Decimal" = true by first | (simp [plainName, overriddenIn]; done) | decide +kernel) | decide +kernel
theorem own_ef_de (m : MethodId) (y0 : Addr) (y1 : Addr) (y2 : Int64) : entryFrame m #[(.ref y0), (.ref y1), (.long y2)] 4 = mkF m 0 #[rv y0, rv y1, .val (.long y2), .second] [] := by first | (simp [entryFrame, mkF, argsToLocals, Value.category]; done) | rfl
def own_Qde (Z : State) (a : Addr) (b : Addr) (x1 : Int64) (u1 : Value) (u2 : Value) (h0 : Heap) (n0 : Nat) (v : Option Value) (h : Heap) (L : List Loc) : Prop := v = none ∧ Fr n0 L ∧ Keep h0 h [a] ∧ Exa Z h a "com/example/lockstep/lockstep/history/Edn$Decimal"
set_option maxRecDepth 65536 in
set_option maxHeartbeats 40000000 in
theorem own_rmde (l : Launch) (Z : State) (a0 : Array Value) (hw : ∀ d ∈ tables_1, d.before a0 Z = true) (ws : List Jvm.Cond) (a : Addr) (b : Addr) (x1 : Int64) (u1 : Value) (u2 : Value) (h0 : Heap) (n0 : Nat) (Z0 : n0 ≤ h0.size) (P0 : Exa Z h0 a "com/example/lockstep/lockstep/history/Edn$Decimal") (P1 : Fld Z h0 a "com/example/lockstep/lockstep/history/Edn$Decimal" "unscaled" "Ljava/lang/String;" u1) (P2 : Fld Z h0 a "com/example/lockstep/lockstep/history/Edn$Decimal" "scale" "J" u2) (G_a : n0 ≤ a) :
    MetFree l own_y18 (head1 (Jvm.Cond.code own_y18 prog_36_method_1_code 4 none :: ws) ({ frames := 2, cells := 0, slots := 0, locals := 24 } : Room)) (fun az Uz => az = #[(.ref a), (.ref b), (.long x1)] ∧ Z.Warmed39 Uz.vm ∧ Uz.heap = h0) (fun _ _ _ _ _ => True) (fun _ U o U' => ∃ v L, o = .returned v ∧ own_Qde Z a b x1 u1 u2 h0 n0 v U'.heap L ∧ FrameEnd U o U' L ({ frames := 2, cells := 0, slots := 0, locals := 24 } : Room).cells ({ frames := 2, cells := 0, slots := 0, locals := 24 } : Room).slots) := by
  refine MetFree.of_bodySF own_pf_de hisR ?_
  intro p e s m args below meth c s₁ Bd hml0 hP hK
  obtain ⟨rfl, hZ, hh⟩ := hP
  have hx := Bd.exec
  have hby := Bd.bytes
  have hml : c.maxLocals = 4 := hml0
  have hown : s.vm.findClass "com/example/lockstep/lockstep/history/Edn$Decimal" = some m.cls := findClass_of_methodNamed Bd.named
  have hnm := (name_of_methodNamed Bd.named Bd.method).1
  have hlk : meth.locks = false := BodyLoose.notSynchronized Bd
  have hret := Bd.returns
  have X0 : Stand p l e ({ frames := 2, cells := 0, slots := 0, locals := 24 } : Room) s m #[(.ref a), (.ref b), (.long x1)] below meth c s₁ [] 0 0 := Stand.of_body Bd
  have e0 : s₁.heap = h0 := by rw [← hh, Bd.state]; rfl
  have N0 := Fr.nil n0
  show own_E p e below (own_K s (own_Qde Z a b x1 u1 u2 h0 n0) ({ frames := 2, cells := 0, slots := 0, locals := 24 } : Room).cells ({ frames := 2, cells := 0, slots := 0, locals := 24 } : Room).slots) s₁ (entryFrame m #[(.ref a), (.ref b), (.long x1)] 4)
  refine own_S (mkF m 0 #[rv a, rv b, .val (.long x1), .second] []) (fun _ k => castTop (own_ef_de m (a) (b) (x1)) k) ?_
  refine own_S (mkF m 1 #[rv a, rv b, .val (.long x1), .second] [(.ref a)]) (fun _ k => XS.aloadN X0.here hx rfl (hb hby d19_0) rfl rfl k) ?_
  obtain ⟨_, _, ⟨T1, L1, k1, n1⟩, -, X1, ⟨Lc1, hQ1, l1, y1, z1⟩, st1⟩ := X0.specialBack hx (y := own_y16) rfl hown (mvT hZ (own_g hw (i := 126) rfl)) (mvT hZ (own_g hw (i := 127) rfl)) (mvT hZ (own_g hw (i := 130) rfl)) (by decide) (backOf (W := 0) (own_rmrc l Z a0 hw [] (a) h0 n0 Z0 ) hZ (own_g hw (i := 130) rfl) (own_g hw (i := 129) rfl) (by decide) (by decide)) (g := (mkF m 1 #[rv a, rv b, .val (.long x1), .second] [(.ref a)])) rfl (by rw [hml]; rfl) (Steps.refl _) (a := a) (argsL := []) (rest := []) (lenOf own_pd___V rfl) rfl (by show 2 * 0 + _ ≤ _; exact Nat.le_of_eq rfl) (hb hby d19_1) (fun _ _ => ⟨rfl, e0, (by decide : 0 + 0 ≤ _), (by decide : 0 + 0 ≤ _)⟩)
  dsimp only [Pt.U, Pt.locs, Pt.cells, Pt.slots] at X1 l1 y1 z1 st1 hQ1
  subst l1 y1 z1
  obtain ⟨rfl, N1q, e1⟩ := hQ1
  have N1 := Fr.app N0 N1q
  refine own_S (mkF m 4 #[rv a, rv b, .val (.long x1), .second] []) (fun _ k => st1.trans k) ?_
  refine own_S (mkF m 5 #[rv a, rv b, .val (.long x1), .second] [(.ref a)]) (fun _ k => XS.aloadN X1.here hx rfl (hb hby d19_4) rfl rfl k) ?_
  refine own_S (mkF m 6 #[rv a, rv b, .val (.long x1), .second] [(.ref b), (.ref a)]) (fun _ k => XS.aloadN X1.here hx rfl (hb hby d19_5) rfl rfl k) ?_
  obtain ⟨T2, h2, X2, e2, W2, st2⟩ := putF X1 hx hZ hown (host := "") (Or.inl (own_g hw (i := 132) rfl)) Via.refl e1 P1 P0 (Or.inr ⟨(own_g hw (i := 133) rfl), rfl, hnm⟩) (own_g hw (i := 121) rfl) (ty := (.object "java/lang/String")) (by decide) rfl rfl (g := (mkF m 6 #[rv a, rv b, .val (.long x1), .second] [(.ref b), (.ref a)])) rfl rfl (hb hby d19_6)
  refine own_S (mkF m 9 #[rv a, rv b, .val (.long x1), .second] []) st2 ?_
  have F3 := P0.wr W2
  have F4 := P1.same W2
  have F5 := P2.other W2 (Or.inr (slot_ne (Or.inr (own_g hw (i := 135) rfl)) (Or.inr (own_g hw (i := 133) rfl)) (by decide) (t := .long) (t' := (.object "java/lang/String")) (by decide) (by decide)))
  have N2 := Fr.snoc X2 N1 G_a
  have Z2 : n0 ≤ h2.size := by rw [Wr.size W2]; exact Z0
  have K2 : Keep h0 h2 [a] := (Keep.refl _ _).wr W2 (Or.inl (List.mem_of_getElem? (i := 0) rfl))
  refine own_S (mkF m 10 #[rv a, rv b, .val (.long x1), .second] [(.ref a)]) (fun _ k => XS.aloadN X2.here hx rfl (hb hby d19_9) rfl rfl k) ?_
  refine own_S (mkF m 11 #[rv a, rv b, .val (.long x1), .second] [(.long x1), (.ref a)]) (fun _ k => XS.lloadN X2.here hx rfl (hb hby d19_10) rfl k) ?_
  obtain ⟨T6, h6, X6, e6, W6, st6⟩ := putF X2 hx hZ hown (host := "") (Or.inl (own_g hw (i := 134) rfl)) Via.refl e2 F5 F3 (Or.inr ⟨(own_g hw (i := 135) rfl), rfl, hnm⟩) (own_g hw (i := 121) rfl) (ty := .long) (by decide) rfl rfl (g := (mkF m 11 #[rv a, rv b, .val (.long x1), .second] [(.long x1), (.ref a)])) rfl rfl (hb hby d19_11)
  refine own_S (mkF m 14 #[rv a, rv b, .val (.long x1), .second] []) st6 ?_
  have F7 := F3.wr W6
  have F8 := F4.other W6 (Or.inr (slot_ne (Or.inr (own_g hw (i := 133) rfl)) (Or.inr (own_g hw (i := 135) rfl)) (by decide) (t := (.object "java/lang/String")) (t' := .long) (by decide) (by decide)))
  have F9 := F5.same W6
  have N6 := Fr.snoc X6 N2 G_a
  have Z6 : n0 ≤ h6.size := by rw [Wr.size W6]; exact Z2
  have K6 : Keep h0 h6 [a] := K2.wr W6 (Or.inl (List.mem_of_getElem? (i := 0) rfl))
  exact own_ret0 X6 hx hlk hret (hb hby d19_14) (by rw [e6]; exact ⟨rfl, N6, K6, F7⟩) (by decide) (by decide)
theorem d16_0 : decode prog_34_method_3_code 0 = .ok (.aload_n 0, 1) := by decide +kernel
theorem d16_1 : decode prog_34_method_3_code 1 = .ok (.instanceof 49, 3) := by decide +kernel
theorem d16_4 : decode prog_34_method_3_code 4 = .ok (.ifCond .ne 10, 3) := by decide +kernel
theorem d16_7 : decode prog_34_method_3_code 7 = .ok (.aload_n 0, 1) := by decide +kernel
theorem d16_8 : decode prog_34_method_3_code 8 = .ok (.instanceof 51, 3) := by decide +kernel
theorem d16_11 : decode prog_34_method_3_code 11 = .ok (.ifCond .eq 7, 3) := by decide +kernel
theorem d16_18 : decode prog_34_method_3_code 18 = .ok (.iconst 0, 1) := by decide +kernel
theorem d16_19 : decode prog_34_method_3_code 19 = .ok (.ireturn, 1) := by decide +kernel
theorem own_pf_isN : plainFor own_y19 = true := by first | exact plainFor_of_name (show plainName "com/example/lockstep/lockstep/history/Edn" = true by first | (simp [plainName, overriddenIn]; done) | decide +kernel) | decide +kernel
theorem own_ef_isN (m : MethodId)  : entryFrame m #[.null] 1 = mkF m 0 #[.val .null] [] := by first | (simp [entryFrame, mkF, argsToLocals, Value.category]; done) | rfl
def own_QisN (Z : State)  (h0 : Heap) (n0 : Nat) (v : Option Value) (h : Heap) (L : List Loc) : Prop := v = some (.int (0 : Int32)) ∧ Fr n0 L ∧ h = h0
set_option maxRecDepth 65536 in
set_option maxHeartbeats 40000000 in
theorem own_rmisN (l : Launch) (Z : State) (a0 : Array Value) (hw : ∀ d ∈ tables_1, d.before a0 Z = true) (ws : List Jvm.Cond)  (h0 : Heap) (n0 : Nat) (Z0 : n0 ≤ h0.size)  :
    MetFree l own_y19 (head1 (Jvm.Cond.code own_y19 prog_34_method_3_code 1 (some .boolean) :: ws) ({ frames := 0, cells := 0, slots := 0, locals := 0 } : Room)) (fun az Uz => az = #[.null] ∧ Z.Warmed39 Uz.vm ∧ Uz.heap = h0) (fun _ _ _ _ _ => True) (fun _ U o U' => ∃ v L, o = .returned v ∧ own_QisN Z  h0 n0 v U'.heap L ∧ FrameEnd U o U' L ({ frames := 0, cells := 0, slots := 0, locals := 0 } : Room).cells ({ frames := 0, cells := 0, slots := 0, locals := 0 } : Room).slots) := by
  refine MetFree.of_bodySF own_pf_isN hisR ?_
  intro p e s m args below meth c s₁ Bd hml0 hP hK
  obtain ⟨rfl, hZ, hh⟩ := hP
  have hx := Bd.exec
  have hby := Bd.bytes
  have hml : c.maxLocals = 1 := hml0
  have hown : s.vm.findClass "com/example/lockstep/lockstep/history/Edn" = some m.cls := findClass_of_methodNamed Bd.named
  have hnm := (name_of_methodNamed Bd.named Bd.method).1
  have hlk : meth.locks = false := BodyLoose.notSynchronized Bd
  have hret := Bd.returns
  have X0 : Stand p l e ({ frames := 0, cells := 0, slots := 0, locals := 0 } : Room) s m #[.null] below meth c s₁ [] 0 0 := Stand.of_body Bd
  have e0 : s₁.heap = h0 := by rw [← hh, Bd.state]; rfl
  have N0 := Fr.nil n0
  show own_E p e below (own_K s (own_QisN Z  h0 n0) ({ frames := 0, cells := 0, slots := 0, locals := 0 } : Room).cells ({ frames := 0, cells := 0, slots := 0, locals := 0 } : Room).slots) s₁ (entryFrame m #[.null] 1)
  refine own_S (mkF m 0 #[.val .null] []) (fun _ k => castTop (own_ef_isN m ) k) ?_
  refine own_S (mkF m 1 #[.val .null] [.null]) (fun _ k => XS.aloadN X0.here hx rfl (hb hby d16_0) rfl rfl k) ?_
  refine own_S (mkF m 4 #[.val .null] [(.int 0)]) (fun _ k => X0.instanceofNull hx (g := (mkF m 1 #[.val .null] [.null])) rfl rfl (hb hby d16_1) _ k) ?_
  have hc1 : (0 : Int32) = (0 : Int32) := by decide
  refine own_S (mkF m 7 #[.val .null] []) (fun _ k => XS.ifNo X0.here hx rfl (hb hby d16_4) rfl ((if0 _ _).trans (teq hc1).2) k) ?_
  refine own_S (mkF m 8 #[.val .null] [.null]) (fun _ k => XS.aloadN X0.here hx rfl (hb hby d16_7) rfl rfl k) ?_
  refine own_S (mkF m 11 #[.val .null] [(.int 0)]) (fun _ k => X0.instanceofNull hx (g := (mkF m 8 #[.val .null] [.null])) rfl rfl (hb hby d16_8) _ k) ?_
  have hc2 : (0 : Int32) = (0 : Int32) := by decide
  refine own_S (mkF m 18 #[.val .null] []) (fun _ k => XS.ifYes X0.here hx rfl (pc0 := 11) (pc' := 18) rfl (hb hby d16_11) rfl ((if0 _ _).trans (teq hc2).1) (by decide) (by decide) k) ?_
  refine own_S (mkF m 19 #[.val .null] [(.int 0)]) (fun _ k => XS.iconst X0.here hx rfl (hb hby d16_18) k) ?_
  exact own_retN X0 hx hlk (t := .boolean) hret (by simp) (hb hby d16_19) (by rw [e0]; exact ⟨rfl, N0, rfl⟩) (by decide) (by decide)
theorem d16_14 : decode prog_34_method_3_code 14 = .ok (.iconst 1, 1) := by decide +kernel
theorem d16_15 : decode prog_34_method_3_code 15 = .ok (.goto 4, 3) := by decide +kernel
theorem own_pf_isL : plainFor own_y19 = true := by first | exact plainFor_of_name (show plainName "com/example/lockstep/lockstep/history/Edn" = true by first | (simp [plainName, overriddenIn]; done) | decide +kernel) | decide +kernel
theorem own_ef_isL (m : MethodId) (y0 : Addr) : entryFrame m #[(.ref y0)] 1 = mkF m 0 #[rv y0] [] := by first | (simp [entryFrame, mkF, argsToLocals, Value.category]; done) | rfl
def own_QisL (Z : State) (a : Addr) (h0 : Heap) (n0 : Nat) (v : Option Value) (h : Heap) (L : List Loc) : Prop := v = some (.int (1 : Int32)) ∧ Fr n0 L ∧ h = h0
set_option maxRecDepth 65536 in
set_option maxHeartbeats 40000000 in
theorem own_rmisL (l : Launch) (Z : State) (a0 : Array Value) (hw : ∀ d ∈ tables_1, d.before a0 Z = true) (ws : List Jvm.Cond) (a : Addr) (h0 : Heap) (n0 : Nat) (Z0 : n0 ≤ h0.size) (P0 : Exa Z h0 a "java/lang/Long") :
    MetFree l own_y19 (head1 (Jvm.Cond.code own_y19 prog_34_method_3_code 1 (some .boolean) :: ws) ({ frames := 0, cells := 0, slots := 0, locals := 0 } : Room)) (fun az Uz => az = #[(.ref a)] ∧ Z.Warmed39 Uz.vm ∧ Uz.heap = h0) (fun _ _ _ _ _ => True) (fun _ U o U' => ∃ v L, o = .returned v ∧ own_QisL Z a h0 n0 v U'.heap L ∧ FrameEnd U o U' L ({ frames := 0, cells := 0, slots := 0, locals := 0 } : Room).cells ({ frames := 0, cells := 0, slots := 0, locals := 0 } : Room).slots) := by
  refine MetFree.of_bodySF own_pf_isL hisR ?_
  intro p e s m args below meth c s₁ Bd hml0 hP hK
  obtain ⟨rfl, hZ, hh⟩ := hP
  have hx := Bd.exec
  have hby := Bd.bytes
  have hml : c.maxLocals = 1 := hml0
  have hown : s.vm.findClass "com/example/lockstep/lockstep/history/Edn" = some m.cls := findClass_of_methodNamed Bd.named
  have hnm := (name_of_methodNamed Bd.named Bd.method).1
  have hlk : meth.locks = false := BodyLoose.notSynchronized Bd
  have hret := Bd.returns
  have X0 : Stand p l e ({ frames := 0, cells := 0, slots := 0, locals := 0 } : Room) s m #[(.ref a)] below meth c s₁ [] 0 0 := Stand.of_body Bd
  have e0 : s₁.heap = h0 := by rw [← hh, Bd.state]; rfl
  have N0 := Fr.nil n0
  show own_E p e below (own_K s (own_QisL Z a h0 n0) ({ frames := 0, cells := 0, slots := 0, locals := 0 } : Room).cells ({ frames := 0, cells := 0, slots := 0, locals := 0 } : Room).slots) s₁ (entryFrame m #[(.ref a)] 1)
  refine own_S (mkF m 0 #[rv a] []) (fun _ k => castTop (own_ef_isL m (a)) k) ?_
  refine own_S (mkF m 1 #[rv a] [(.ref a)]) (fun _ k => XS.aloadN X0.here hx rfl (hb hby d16_0) rfl rfl k) ?_
  obtain ⟨T1, X1, e1, st1⟩ := instY X0 hx hZ hown (own_g hw (i := 98) rfl) e0 (Ins.self P0) (g := (mkF m 1 #[rv a] [(.ref a)])) rfl rfl (hb hby d16_1)
  refine own_S (mkF m 4 #[rv a] [(.int 1)]) st1 ?_
  have hc2 : ¬ ((1 : Int32) = (0 : Int32)) := by decide
  refine own_S (mkF m 14 #[rv a] []) (fun _ k => XS.ifYes X1.here hx rfl (pc0 := 4) (pc' := 14) rfl (hb hby d16_4) rfl ((if0 _ _).trans (feq hc2).2) (by decide) (by decide) k) ?_
  refine own_S (mkF m 15 #[rv a] [(.int 1)]) (fun _ k => XS.iconst X1.here hx rfl (hb hby d16_14) k) ?_
  refine own_S (mkF m 19 #[rv a] [(.int 1)]) (fun _ k => XS.goto X1.here hx rfl (pc0 := 15) (pc' := 19) rfl (hb hby d16_15) (by decide) (by decide) k) ?_
  exact own_retN X1 hx hlk (t := .boolean) hret (by simp) (hb hby d16_19) (by rw [e1]; exact ⟨rfl, N0, rfl⟩) (by decide) (by decide)
theorem own_pf_isB : plainFor own_y19 = true := by first | exact plainFor_of_name (show plainName "com/example/lockstep/lockstep/history/Edn" = true by first | (simp [plainName, overriddenIn]; done) | decide +kernel) | decide +kernel
theorem own_ef_isB (m : MethodId) (y0 : Addr) : entryFrame m #[(.ref y0)] 1 = mkF m 0 #[rv y0] [] := by first | (simp [entryFrame, mkF, argsToLocals, Value.category]; done) | rfl
def own_QisB (Z : State) (a : Addr) (h0 : Heap) (n0 : Nat) (v : Option Value) (h : Heap) (L : List Loc) : Prop := v = some (.int (1 : Int32)) ∧ Fr n0 L ∧ h = h0
set_option maxRecDepth 65536 in
set_option maxHeartbeats 40000000 in
theorem own_rmisB (l : Launch) (Z : State) (a0 : Array Value) (hw : ∀ d ∈ tables_1, d.before a0 Z = true) (ws : List Jvm.Cond) (a : Addr) (h0 : Heap) (n0 : Nat) (Z0 : n0 ≤ h0.size) (P0 : Exa Z h0 a "com/example/lockstep/lockstep/history/Edn$BigInt") :
    MetFree l own_y19 (head1 (Jvm.Cond.code own_y19 prog_34_method_3_code 1 (some .boolean) :: ws) ({ frames := 0, cells := 0, slots := 0, locals := 0 } : Room)) (fun az Uz => az = #[(.ref a)] ∧ Z.Warmed39 Uz.vm ∧ Uz.heap = h0) (fun _ _ _ _ _ => True) (fun _ U o U' => ∃ v L, o = .returned v ∧ own_QisB Z a h0 n0 v U'.heap L ∧ FrameEnd U o U' L ({ frames := 0, cells := 0, slots := 0, locals := 0 } : Room).cells ({ frames := 0, cells := 0, slots := 0, locals := 0 } : Room).slots) := by
  refine MetFree.of_bodySF own_pf_isB hisR ?_
  intro p e s m args below meth c s₁ Bd hml0 hP hK
  obtain ⟨rfl, hZ, hh⟩ := hP
  have hx := Bd.exec
  have hby := Bd.bytes
  have hml : c.maxLocals = 1 := hml0
  have hown : s.vm.findClass "com/example/lockstep/lockstep/history/Edn" = some m.cls := findClass_of_methodNamed Bd.named
  have hnm := (name_of_methodNamed Bd.named Bd.method).1
  have hlk : meth.locks = false := BodyLoose.notSynchronized Bd
  have hret := Bd.returns
  have X0 : Stand p l e ({ frames := 0, cells := 0, slots := 0, locals := 0 } : Room) s m #[(.ref a)] below meth c s₁ [] 0 0 := Stand.of_body Bd
  have e0 : s₁.heap = h0 := by rw [← hh, Bd.state]; rfl
  have N0 := Fr.nil n0
  show own_E p e below (own_K s (own_QisB Z a h0 n0) ({ frames := 0, cells := 0, slots := 0, locals := 0 } : Room).cells ({ frames := 0, cells := 0, slots := 0, locals := 0 } : Room).slots) s₁ (entryFrame m #[(.ref a)] 1)
  refine own_S (mkF m 0 #[rv a] []) (fun _ k => castTop (own_ef_isB m (a)) k) ?_
  refine own_S (mkF m 1 #[rv a] [(.ref a)]) (fun _ k => XS.aloadN X0.here hx rfl (hb hby d16_0) rfl rfl k) ?_
  obtain ⟨T1, X1, e1, st1⟩ := instNo X0 hx hZ hown (own_g hw (i := 98) rfl) e0 P0 (own_NSn (own_g hw (i := 147) rfl) (own_g hw (i := 103) rfl) (NS.step (own_g hw (i := 147) rfl) (NS.step (own_g hw (i := 137) rfl) (own_NSr (own_g hw (i := 100) rfl) (own_g hw (i := 103) rfl) (by decide)) (by decide)) (by decide))) (g := (mkF m 1 #[rv a] [(.ref a)])) rfl rfl (hb hby d16_1)
  refine own_S (mkF m 4 #[rv a] [(.int 0)]) st1 ?_
  have hc2 : (0 : Int32) = (0 : Int32) := by decide
  refine own_S (mkF m 7 #[rv a] []) (fun _ k => XS.ifNo X1.here hx rfl (hb hby d16_4) rfl ((if0 _ _).trans (teq hc2).2) k) ?_
  refine own_S (mkF m 8 #[rv a] [(.ref a)]) (fun _ k => XS.aloadN X1.here hx rfl (hb hby d16_7) rfl rfl k) ?_
  obtain ⟨T3, X3, e3, st3⟩ := instY X1 hx hZ hown (own_g hw (i := 101) rfl) e1 (Ins.self P0) (g := (mkF m 8 #[rv a] [(.ref a)])) rfl rfl (hb hby d16_8)
  refine own_S (mkF m 11 #[rv a] [(.int 1)]) st3 ?_
  have hc4 : ¬ ((1 : Int32) = (0 : Int32)) := by decide
  refine own_S (mkF m 14 #[rv a] []) (fun _ k => XS.ifNo X3.here hx rfl (hb hby d16_11) rfl ((if0 _ _).trans (feq hc4).1) k) ?_
  refine own_S (mkF m 15 #[rv a] [(.int 1)]) (fun _ k => XS.iconst X3.here hx rfl (hb hby d16_14) k) ?_
  refine own_S (mkF m 19 #[rv a] [(.int 1)]) (fun _ k => XS.goto X3.here hx rfl (pc0 := 15) (pc' := 19) rfl (hb hby d16_15) (by decide) (by decide) k) ?_
  exact own_retN X3 hx hlk (t := .boolean) hret (by simp) (hb hby d16_19) (by rw [e3]; exact ⟨rfl, N0, rfl⟩) (by decide) (by decide)
theorem own_pf_isD : plainFor own_y19 = true := by first | exact plainFor_of_name (show plainName "com/example/lockstep/lockstep/history/Edn" = true by first | (simp [plainName, overriddenIn]; done) | decide +kernel) | decide +kernel
theorem own_ef_isD (m : MethodId) (y0 : Addr) : entryFrame m #[(.ref y0)] 1 = mkF m 0 #[rv y0] [] := by first | (simp [entryFrame, mkF, argsToLocals, Value.category]; done) | rfl
def own_QisD (Z : State) (a : Addr) (h0 : Heap) (n0 : Nat) (v : Option Value) (h : Heap) (L : List Loc) : Prop := v = some (.int (0 : Int32)) ∧ Fr n0 L ∧ h = h0
set_option maxRecDepth 65536 in
set_option maxHeartbeats 40000000 in
theorem own_rmisD (l : Launch) (Z : State) (a0 : Array Value) (hw : ∀ d ∈ tables_1, d.before a0 Z = true) (ws : List Jvm.Cond) (a : Addr) (h0 : Heap) (n0 : Nat) (Z0 : n0 ≤ h0.size) (P0 : Exa Z h0 a "com/example/lockstep/lockstep/history/Edn$Decimal") :
    MetFree l own_y19 (head1 (Jvm.Cond.code own_y19 prog_34_method_3_code 1 (some .boolean) :: ws) ({ frames := 0, cells := 0, slots := 0, locals := 0 } : Room)) (fun az Uz => az = #[(.ref a)] ∧ Z.Warmed39 Uz.vm ∧ Uz.heap = h0) (fun _ _ _ _ _ => True) (fun _ U o U' => ∃ v L, o = .returned v ∧ own_QisD Z a h0 n0 v U'.heap L ∧ FrameEnd U o U' L ({ frames := 0, cells := 0, slots := 0, locals := 0 } : Room).cells ({ frames := 0, cells := 0, slots := 0, locals := 0 } : Room).slots) := by
  refine MetFree.of_bodySF own_pf_isD hisR ?_
  intro p e s m args below meth c s₁ Bd hml0 hP hK
  obtain ⟨rfl, hZ, hh⟩ := hP
  have hx := Bd.exec
  have hby := Bd.bytes
  have hml : c.maxLocals = 1 := hml0
  have hown : s.vm.findClass "com/example/lockstep/lockstep/history/Edn" = some m.cls := findClass_of_methodNamed Bd.named
  have hnm := (name_of_methodNamed Bd.named Bd.method).1
  have hlk : meth.locks = false := BodyLoose.notSynchronized Bd
  have hret := Bd.returns
  have X0 : Stand p l e ({ frames := 0, cells := 0, slots := 0, locals := 0 } : Room) s m #[(.ref a)] below meth c s₁ [] 0 0 := Stand.of_body Bd
  have e0 : s₁.heap = h0 := by rw [← hh, Bd.state]; rfl
  have N0 := Fr.nil n0
  show own_E p e below (own_K s (own_QisD Z a h0 n0) ({ frames := 0, cells := 0, slots := 0, locals := 0 } : Room).cells ({ frames := 0, cells := 0, slots := 0, locals := 0 } : Room).slots) s₁ (entryFrame m #[(.ref a)] 1)
  refine own_S (mkF m 0 #[rv a] []) (fun _ k => castTop (own_ef_isD m (a)) k) ?_
  refine own_S (mkF m 1 #[rv a] [(.ref a)]) (fun _ k => XS.aloadN X0.here hx rfl (hb hby d16_0) rfl rfl k) ?_
  obtain ⟨T1, X1, e1, st1⟩ := instNo X0 hx hZ hown (own_g hw (i := 98) rfl) e0 P0 (own_NSn (own_g hw (i := 136) rfl) (own_g hw (i := 103) rfl) (NS.step (own_g hw (i := 136) rfl) (NS.step (own_g hw (i := 137) rfl) (own_NSr (own_g hw (i := 100) rfl) (own_g hw (i := 103) rfl) (by decide)) (by decide)) (by decide))) (g := (mkF m 1 #[rv a] [(.ref a)])) rfl rfl (hb hby d16_1)
  refine own_S (mkF m 4 #[rv a] [(.int 0)]) st1 ?_
  have hc2 : (0 : Int32) = (0 : Int32) := by decide
  refine own_S (mkF m 7 #[rv a] []) (fun _ k => XS.ifNo X1.here hx rfl (hb hby d16_4) rfl ((if0 _ _).trans (teq hc2).2) k) ?_
  refine own_S (mkF m 8 #[rv a] [(.ref a)]) (fun _ k => XS.aloadN X1.here hx rfl (hb hby d16_7) rfl rfl k) ?_
  obtain ⟨T3, X3, e3, st3⟩ := instNo X1 hx hZ hown (own_g hw (i := 101) rfl) e1 P0 (own_NSn (own_g hw (i := 136) rfl) (own_g hw (i := 139) rfl) (NS.step (own_g hw (i := 136) rfl) (NS.step (own_g hw (i := 137) rfl) (own_NSr (own_g hw (i := 100) rfl) (own_g hw (i := 139) rfl) (by decide)) (by decide)) (by decide))) (g := (mkF m 8 #[rv a] [(.ref a)])) rfl rfl (hb hby d16_8)
  refine own_S (mkF m 11 #[rv a] [(.int 0)]) st3 ?_
  have hc4 : (0 : Int32) = (0 : Int32) := by decide
  refine own_S (mkF m 18 #[rv a] []) (fun _ k => XS.ifYes X3.here hx rfl (pc0 := 11) (pc' := 18) rfl (hb hby d16_11) rfl ((if0 _ _).trans (teq hc4).1) (by decide) (by decide) k) ?_
  refine own_S (mkF m 19 #[rv a] [(.int 0)]) (fun _ k => XS.iconst X3.here hx rfl (hb hby d16_18) k) ?_
  exact own_retN X3 hx hlk (t := .boolean) hret (by simp) (hb hby d16_19) (by rw [e3]; exact ⟨rfl, N0, rfl⟩) (by decide) (by decide)
theorem own_pf_isS : plainFor own_y19 = true := by first | exact plainFor_of_name (show plainName "com/example/lockstep/lockstep/history/Edn" = true by first | (simp [plainName, overriddenIn]; done) | decide +kernel) | decide +kernel
theorem own_ef_isS (m : MethodId) (y0 : Addr) : entryFrame m #[(.ref y0)] 1 = mkF m 0 #[rv y0] [] := by first | (simp [entryFrame, mkF, argsToLocals, Value.category]; done) | rfl
def own_QisS (Z : State) (a : Addr) (h0 : Heap) (n0 : Nat) (v : Option Value) (h : Heap) (L : List Loc) : Prop := v = some (.int (0 : Int32)) ∧ Fr n0 L ∧ h = h0
set_option maxRecDepth 65536 in
set_option maxHeartbeats 40000000 in
theorem own_rmisS (l : Launch) (Z : State) (a0 : Array Value) (hw : ∀ d ∈ tables_1, d.before a0 Z = true) (ws : List Jvm.Cond) (a : Addr) (h0 : Heap) (n0 : Nat) (Z0 : n0 ≤ h0.size) (P0 : Exa Z h0 a "java/lang/String") :
    MetFree l own_y19 (head1 (Jvm.Cond.code own_y19 prog_34_method_3_code 1 (some .boolean) :: ws) ({ frames := 0, cells := 0, slots := 0, locals := 0 } : Room)) (fun az Uz => az = #[(.ref a)] ∧ Z.Warmed39 Uz.vm ∧ Uz.heap = h0) (fun _ _ _ _ _ => True) (fun _ U o U' => ∃ v L, o = .returned v ∧ own_QisS Z a h0 n0 v U'.heap L ∧ FrameEnd U o U' L ({ frames := 0, cells := 0, slots := 0, locals := 0 } : Room).cells ({ frames := 0, cells := 0, slots := 0, locals := 0 } : Room).slots) := by
  refine MetFree.of_bodySF own_pf_isS hisR ?_
  intro p e s m args below meth c s₁ Bd hml0 hP hK
  obtain ⟨rfl, hZ, hh⟩ := hP
  have hx := Bd.exec
  have hby := Bd.bytes
  have hml : c.maxLocals = 1 := hml0
  have hown : s.vm.findClass "com/example/lockstep/lockstep/history/Edn" = some m.cls := findClass_of_methodNamed Bd.named
  have hnm := (name_of_methodNamed Bd.named Bd.method).1
  have hlk : meth.locks = false := BodyLoose.notSynchronized Bd
  have hret := Bd.returns
  have X0 : Stand p l e ({ frames := 0, cells := 0, slots := 0, locals := 0 } : Room) s m #[(.ref a)] below meth c s₁ [] 0 0 := Stand.of_body Bd
  have e0 : s₁.heap = h0 := by rw [← hh, Bd.state]; rfl
  have N0 := Fr.nil n0
  show own_E p e below (own_K s (own_QisS Z a h0 n0) ({ frames := 0, cells := 0, slots := 0, locals := 0 } : Room).cells ({ frames := 0, cells := 0, slots := 0, locals := 0 } : Room).slots) s₁ (entryFrame m #[(.ref a)] 1)
  refine own_S (mkF m 0 #[rv a] []) (fun _ k => castTop (own_ef_isS m (a)) k) ?_
  refine own_S (mkF m 1 #[rv a] [(.ref a)]) (fun _ k => XS.aloadN X0.here hx rfl (hb hby d16_0) rfl rfl k) ?_
  obtain ⟨T1, X1, e1, st1⟩ := instNo X0 hx hZ hown (own_g hw (i := 98) rfl) e0 P0 (own_NSn (own_g hw (i := 99) rfl) (own_g hw (i := 103) rfl) (NS.step (own_g hw (i := 99) rfl) (own_NSr (own_g hw (i := 100) rfl) (own_g hw (i := 103) rfl) (by decide)) (by decide))) (g := (mkF m 1 #[rv a] [(.ref a)])) rfl rfl (hb hby d16_1)
  refine own_S (mkF m 4 #[rv a] [(.int 0)]) st1 ?_
  have hc2 : (0 : Int32) = (0 : Int32) := by decide
  refine own_S (mkF m 7 #[rv a] []) (fun _ k => XS.ifNo X1.here hx rfl (hb hby d16_4) rfl ((if0 _ _).trans (teq hc2).2) k) ?_
  refine own_S (mkF m 8 #[rv a] [(.ref a)]) (fun _ k => XS.aloadN X1.here hx rfl (hb hby d16_7) rfl rfl k) ?_
  obtain ⟨T3, X3, e3, st3⟩ := instNo X1 hx hZ hown (own_g hw (i := 101) rfl) e1 P0 (own_NSn (own_g hw (i := 99) rfl) (own_g hw (i := 139) rfl) (NS.step (own_g hw (i := 99) rfl) (own_NSr (own_g hw (i := 100) rfl) (own_g hw (i := 139) rfl) (by decide)) (by decide))) (g := (mkF m 8 #[rv a] [(.ref a)])) rfl rfl (hb hby d16_8)
  refine own_S (mkF m 11 #[rv a] [(.int 0)]) st3 ?_
  have hc4 : (0 : Int32) = (0 : Int32) := by decide
  refine own_S (mkF m 18 #[rv a] []) (fun _ k => XS.ifYes X3.here hx rfl (pc0 := 11) (pc' := 18) rfl (hb hby d16_11) rfl ((if0 _ _).trans (teq hc4).1) (by decide) (by decide) k) ?_
  refine own_S (mkF m 19 #[rv a] [(.int 0)]) (fun _ k => XS.iconst X3.here hx rfl (hb hby d16_18) k) ?_
  exact own_retN X3 hx hlk (t := .boolean) hret (by simp) (hb hby d16_19) (by rw [e3]; exact ⟨rfl, N0, rfl⟩) (by decide) (by decide)
theorem own_pf_isA : plainFor own_y19 = true := by first | exact plainFor_of_name (show plainName "com/example/lockstep/lockstep/history/Edn" = true by first | (simp [plainName, overriddenIn]; done) | decide +kernel) | decide +kernel
theorem own_ef_isA (m : MethodId) (y0 : Addr) : entryFrame m #[(.ref y0)] 1 = mkF m 0 #[rv y0] [] := by first | (simp [entryFrame, mkF, argsToLocals, Value.category]; done) | rfl
def own_QisA (Z : State) (a : Addr) (h0 : Heap) (n0 : Nat) (v : Option Value) (h : Heap) (L : List Loc) : Prop := v = some (.int (0 : Int32)) ∧ Fr n0 L ∧ h = h0
set_option maxRecDepth 65536 in
set_option maxHeartbeats 40000000 in
theorem own_rmisA (l : Launch) (Z : State) (a0 : Array Value) (hw : ∀ d ∈ tables_1, d.before a0 Z = true) (ws : List Jvm.Cond) (a : Addr) (h0 : Heap) (n0 : Nat) (Z0 : n0 ≤ h0.size) (P0 : Exa Z h0 a "java/util/ArrayList") :
    MetFree l own_y19 (head1 (Jvm.Cond.code own_y19 prog_34_method_3_code 1 (some .boolean) :: ws) ({ frames := 0, cells := 0, slots := 0, locals := 0 } : Room)) (fun az Uz => az = #[(.ref a)] ∧ Z.Warmed39 Uz.vm ∧ Uz.heap = h0) (fun _ _ _ _ _ => True) (fun _ U o U' => ∃ v L, o = .returned v ∧ own_QisA Z a h0 n0 v U'.heap L ∧ FrameEnd U o U' L ({ frames := 0, cells := 0, slots := 0, locals := 0 } : Room).cells ({ frames := 0, cells := 0, slots := 0, locals := 0 } : Room).slots) := by
  refine MetFree.of_bodySF own_pf_isA hisR ?_
  intro p e s m args below meth c s₁ Bd hml0 hP hK
  obtain ⟨rfl, hZ, hh⟩ := hP
  have hx := Bd.exec
  have hby := Bd.bytes
  have hml : c.maxLocals = 1 := hml0
  have hown : s.vm.findClass "com/example/lockstep/lockstep/history/Edn" = some m.cls := findClass_of_methodNamed Bd.named
  have hnm := (name_of_methodNamed Bd.named Bd.method).1
  have hlk : meth.locks = false := BodyLoose.notSynchronized Bd
  have hret := Bd.returns
  have X0 : Stand p l e ({ frames := 0, cells := 0, slots := 0, locals := 0 } : Room) s m #[(.ref a)] below meth c s₁ [] 0 0 := Stand.of_body Bd
  have e0 : s₁.heap = h0 := by rw [← hh, Bd.state]; rfl
  have N0 := Fr.nil n0
  show own_E p e below (own_K s (own_QisA Z a h0 n0) ({ frames := 0, cells := 0, slots := 0, locals := 0 } : Room).cells ({ frames := 0, cells := 0, slots := 0, locals := 0 } : Room).slots) s₁ (entryFrame m #[(.ref a)] 1)
  refine own_S (mkF m 0 #[rv a] []) (fun _ k => castTop (own_ef_isA m (a)) k) ?_
  refine own_S (mkF m 1 #[rv a] [(.ref a)]) (fun _ k => XS.aloadN X0.here hx rfl (hb hby d16_0) rfl rfl k) ?_
  obtain ⟨T1, X1, e1, st1⟩ := instNo X0 hx hZ hown (own_g hw (i := 98) rfl) e0 P0 (own_NSn (own_g hw (i := 117) rfl) (own_g hw (i := 103) rfl) (NS.step (own_g hw (i := 117) rfl) (NS.step (own_g hw (i := 118) rfl) (NS.step (own_g hw (i := 119) rfl) (own_NSr (own_g hw (i := 100) rfl) (own_g hw (i := 103) rfl) (by decide)) (by decide)) (by decide)) (by decide))) (g := (mkF m 1 #[rv a] [(.ref a)])) rfl rfl (hb hby d16_1)
  refine own_S (mkF m 4 #[rv a] [(.int 0)]) st1 ?_
  have hc2 : (0 : Int32) = (0 : Int32) := by decide
  refine own_S (mkF m 7 #[rv a] []) (fun _ k => XS.ifNo X1.here hx rfl (hb hby d16_4) rfl ((if0 _ _).trans (teq hc2).2) k) ?_
  refine own_S (mkF m 8 #[rv a] [(.ref a)]) (fun _ k => XS.aloadN X1.here hx rfl (hb hby d16_7) rfl rfl k) ?_
  obtain ⟨T3, X3, e3, st3⟩ := instNo X1 hx hZ hown (own_g hw (i := 101) rfl) e1 P0 (own_NSn (own_g hw (i := 117) rfl) (own_g hw (i := 139) rfl) (NS.step (own_g hw (i := 117) rfl) (NS.step (own_g hw (i := 118) rfl) (NS.step (own_g hw (i := 119) rfl) (own_NSr (own_g hw (i := 100) rfl) (own_g hw (i := 139) rfl) (by decide)) (by decide)) (by decide)) (by decide))) (g := (mkF m 8 #[rv a] [(.ref a)])) rfl rfl (hb hby d16_8)
  refine own_S (mkF m 11 #[rv a] [(.int 0)]) st3 ?_
  have hc4 : (0 : Int32) = (0 : Int32) := by decide
  refine own_S (mkF m 18 #[rv a] []) (fun _ k => XS.ifYes X3.here hx rfl (pc0 := 11) (pc' := 18) rfl (hb hby d16_11) rfl ((if0 _ _).trans (teq hc4).1) (by decide) (by decide) k) ?_
  refine own_S (mkF m 19 #[rv a] [(.int 0)]) (fun _ k => XS.iconst X3.here hx rfl (hb hby d16_18) k) ?_
  exact own_retN X3 hx hlk (t := .boolean) hret (by simp) (hb hby d16_19) (by rw [e3]; exact ⟨rfl, N0, rfl⟩) (by decide) (by decide)
theorem own_pd___C_V : parseMethodDescriptor "([C)V" = some ⟨[(.array .char)], none⟩ := by decide +kernel
theorem own_pd__J_Ljava_lang_Long_ : parseMethodDescriptor "(J)Ljava/lang/Long;" = some ⟨[.long], (some (.object "java/lang/Long"))⟩ := by decide +kernel
theorem own_pd__Ljava_lang_Object__Z : parseMethodDescriptor "(Ljava/lang/Object;)Z" = some ⟨[(.object "java/lang/Object")], (some .boolean)⟩ := by decide +kernel
theorem own_pd__Ljava_lang_String__V : parseMethodDescriptor "(Ljava/lang/String;)V" = some ⟨[(.object "java/lang/String")], none⟩ := by decide +kernel
theorem own_pd__Ljava_lang_String_J_V : parseMethodDescriptor "(Ljava/lang/String;J)V" = some ⟨[(.object "java/lang/String"), .long], none⟩ := by decide +kernel
theorem own_pf_law : plainFor x = true := by first | exact plainFor_of_name (show plainName "com/example/lockstep/lockstep/history/EdnIsIntegerPinLaw" = true by first | (simp [plainName, overriddenIn]; done) | decide +kernel) | decide +kernel
theorem own_ef_law (m : MethodId) (y0 : Int32) (y1 : Int64) (y2 : Int32) (y3 : Int32) (y4 : Int64) : entryFrame m #[(.int y0), (.long y1), (.int y2), (.int y3), (.long y4)] maxLocals = mkF m 0 #[iv y0, .val (.long y1), .second, iv y2, iv y3, .val (.long y4), .second, .unset, .unset, .unset, .unset, .unset, .unset] [] := by first | (simp [entryFrame, mkF, argsToLocals, Value.category, maxLocals]; done) | rfl
def own_Qlaw (Z : State) (sl : Int32) (nn : Int64) (x0 : Int32) (x1 : Int32) (sc : Int64) (ca0 : Addr) (ea : Addr) (ke : ClassId) (cz : Int32) (h0 : Heap) (n0 : Nat) (v : Option Value) (h : Heap) (L : List Loc) : Prop := v = some (.int 1) ∧ Fr n0 L ∧ True
set_option maxRecDepth 65536 in
set_option maxHeartbeats 40000000 in
theorem own_rmlaw (l : Launch) (Z : State) (a0 : Array Value) (hw : ∀ d ∈ tables_1, d.before a0 Z = true) (ws : List Jvm.Cond) (sl : Int32) (nn : Int64) (x0 : Int32) (x1 : Int32) (sc : Int64) (ca0 : Addr) (ea : Addr) (ke : ClassId) (cz : Int32) (h0 : Heap) (n0 : Nat) (Z0 : n0 ≤ h0.size) (P0 : Old Z n0 h0) (P1 : Sta Z h0 "java/lang/String" "COMPACT_STRINGS" "Z" (.int cz)) (P2 : Sta Z h0 "java/util/ArrayList" "DEFAULTCAPACITY_EMPTY_ELEMENTDATA" "[Ljava/lang/Object;" (.ref ea)) (P3 : own_Ar Z h0 ea ke (.object "java/lang/Object") []) (hS : Sta Z Z.heap "java/lang/Long$LongCache" "cache" "[Ljava/lang/Long;" (.ref ca0)) (hC : own_Cache Z ca0) (hz : ¬ (cz = (0 : Int32))) :
    MetFree l x (head1 (Jvm.Cond.code x code maxLocals ret :: ws) room_1) (fun az Uz => az = #[(.int sl), (.long nn), (.int x0), (.int x1), (.long sc)] ∧ Z.Warmed39 Uz.vm ∧ Uz.heap = h0) (fun _ _ _ _ _ => True) (fun _ U o U' => ∃ v L, o = .returned v ∧ own_Qlaw Z sl nn x0 x1 sc ca0 ea ke cz h0 n0 v U'.heap L ∧ FrameEnd U o U' L room_1.cells room_1.slots) := by
  refine MetFree.of_bodySF own_pf_law hisR ?_
  intro p e s m args below meth c s₁ Bd hml0 hP hK
  obtain ⟨rfl, hZ, hh⟩ := hP
  have hx := Bd.exec
  have hby := Bd.bytes
  have hml : c.maxLocals = 13 := hml0
  have hown : s.vm.findClass "com/example/lockstep/lockstep/history/EdnIsIntegerPinLaw" = some m.cls := findClass_of_methodNamed Bd.named
  have hnm := (name_of_methodNamed Bd.named Bd.method).1
  have hlk : meth.locks = false := BodyLoose.notSynchronized Bd
  have hret := Bd.returns
  have X0 : Stand p l e room_1 s m #[(.int sl), (.long nn), (.int x0), (.int x1), (.long sc)] below meth c s₁ [] 0 0 := Stand.of_body Bd
  have e0 : s₁.heap = h0 := by rw [← hh, Bd.state]; rfl
  have N0 := Fr.nil n0
  show own_E p e below (own_K s (own_Qlaw Z sl nn x0 x1 sc ca0 ea ke cz h0 n0) room_1.cells room_1.slots) s₁ (entryFrame m #[(.int sl), (.long nn), (.int x0), (.int x1), (.long sc)] maxLocals)
  refine own_S (mkF m 0 #[iv sl, .val (.long nn), .second, iv x0, iv x1, .val (.long sc), .second, .unset, .unset, .unset, .unset, .unset, .unset] []) (fun _ k => castTop (own_ef_law m (sl) (nn) (x0) (x1) (sc)) k) ?_
  refine own_S (mkF m 1 #[iv sl, .val (.long nn), .second, iv x0, iv x1, .val (.long sc), .second, .unset, .unset, .unset, .unset, .unset, .unset] [(.int sl)]) (fun _ k => XS.iloadN X0.here hx rfl (hb hby at_0) rfl k) ?_
  refine own_S (mkF m 3 #[iv sl, .val (.long nn), .second, iv x0, iv x1, .val (.long sc), .second, .unset, .unset, .unset, .unset, .unset, .unset] [(.int 2147483647), (.int sl)]) (fun _ k => X0.ldcInt hx hown (mvT hZ (own_g hw (i := 0) rfl)) (g := (mkF m 1 #[iv sl, .val (.long nn), .second, iv x0, iv x1, .val (.long sc), .second, .unset, .unset, .unset, .unset, .unset, .unset] [(.int sl)])) rfl (hb hby at_1) _ k) ?_
  refine own_S (mkF m 4 #[iv sl, .val (.long nn), .second, iv x0, iv x1, .val (.long sc), .second, .unset, .unset, .unset, .unset, .unset, .unset] [(.int (sl &&& (2147483647 : Int32)))]) (fun _ k => XS.iand X0.here hx rfl (hb hby at_3) rfl k) ?_
  refine own_S (mkF m 6 #[iv sl, .val (.long nn), .second, iv x0, iv x1, .val (.long sc), .second, .unset, .unset, .unset, .unset, .unset, .unset] [(.int 6), (.int (sl &&& (2147483647 : Int32)))]) (fun _ k => XS.bipush X0.here hx rfl (hb hby at_4) k) ?_
  refine own_S (mkF m 7 #[iv sl, .val (.long nn), .second, iv x0, iv x1, .val (.long sc), .second, .unset, .unset, .unset, .unset, .unset, .unset] [(.int ((sl &&& (2147483647 : Int32)) % (6 : Int32)))]) (fun _ k => iremM X0 hx rfl (hb hby at_6) rfl (by decide) k) ?_
  refine own_S (mkF m 9 #[iv sl, .val (.long nn), .second, iv x0, iv x1, .val (.long sc), .second, iv ((sl &&& (2147483647 : Int32)) % (6 : Int32)), .unset, .unset, .unset, .unset, .unset] []) (fun _ k => XS.istore X0.here hx rfl (hb hby at_7) rfl (l' := #[iv sl, .val (.long nn), .second, iv x0, iv x1, .val (.long sc), .second, iv ((sl &&& (2147483647 : Int32)) % (6 : Int32)), .unset, .unset, .unset, .unset, .unset]) rfl k) ?_
  obtain ⟨kk, h_kk⟩ : ∃ z : Int32, z = ((sl &&& (2147483647 : Int32)) % (6 : Int32)) := ⟨_, rfl⟩
  refine own_S (T' := s₁) (mkF m 9 #[iv sl, .val (.long nn), .second, iv x0, iv x1, .val (.long sc), .second, iv kk, .unset, .unset, .unset, .unset, .unset] []) (fun _ k => by subst h_kk; exact k) ?_
  have o_kk := own_m6 sl kk h_kk
  refine own_S (mkF m 10 #[iv sl, .val (.long nn), .second, iv x0, iv x1, .val (.long sc), .second, iv kk, .unset, .unset, .unset, .unset, .unset] [(.int 2)]) (fun _ k => XS.iconst X0.here hx rfl (hb hby at_9) k) ?_
  obtain ⟨T1, h1, cA1, X1, e1, E1, A1, st1⟩ := newP X0 hx hZ (own_g hw (i := 1) rfl) e0 (g := (mkF m 10 #[iv sl, .val (.long nn), .second, iv x0, iv x1, .val (.long sc), .second, iv kk, .unset, .unset, .unset, .unset, .unset] [(.int 2)])) rfl (hb hby at_10) rfl (by decide) (cap := 2) (by decide) (by decide) (by decide) (by decide)
  obtain ⟨cs, g1⟩ : ∃ z, z = h0.size := ⟨_, rfl⟩
  rw [← g1] at A1 st1
  have n2 : ea ≠ cs := Nat.ne_of_lt (Nat.lt_of_lt_of_eq P3.lt g1.symm)
  have ge_cs : n0 ≤ cs := Nat.le_trans Z0 (Nat.le_of_eq g1.symm)
  have F3 := P0.ext E1
  have F4 := P1.ext E1
  have F5 := P2.ext E1
  have F6 := P3.ext E1
  have Z1 : n0 ≤ h1.size := Nat.le_trans Z0 E1.1
  have F7 : own_Ar Z h1 cs cA1 .char [(.int (0 : Int32)), (.int (0 : Int32))] := own_Ar.new A1 rfl
  refine own_S (mkF m 12 #[iv sl, .val (.long nn), .second, iv x0, iv x1, .val (.long sc), .second, iv kk, .unset, .unset, .unset, .unset, .unset] [(.ref cs)]) st1 ?_
  refine own_S (mkF m 13 #[iv sl, .val (.long nn), .second, iv x0, iv x1, .val (.long sc), .second, iv kk, .unset, .unset, .unset, .unset, .unset] [(.ref cs), (.ref cs)]) (fun _ k => XS.dup X1.here hx rfl (hb hby at_12) rfl rfl k) ?_
  refine own_S (mkF m 14 #[iv sl, .val (.long nn), .second, iv x0, iv x1, .val (.long sc), .second, iv kk, .unset, .unset, .unset, .unset, .unset] [(.int 0), (.ref cs), (.ref cs)]) (fun _ k => XS.iconst X1.here hx rfl (hb hby at_13) k) ?_
  refine own_S (mkF m 15 #[iv sl, .val (.long nn), .second, iv x0, iv x1, .val (.long sc), .second, iv kk, .unset, .unset, .unset, .unset, .unset] [(.int x0), (.int 0), (.ref cs), (.ref cs)]) (fun _ k => XS.iloadN X1.here hx rfl (hb hby at_14) rfl k) ?_
  refine own_S (mkF m 18 #[iv sl, .val (.long nn), .second, iv x0, iv x1, .val (.long sc), .second, iv kk, .unset, .unset, .unset, .unset, .unset] [(.int 255), (.int x0), (.int 0), (.ref cs), (.ref cs)]) (fun _ k => XS.sipush X1.here hx rfl (hb hby at_15) k) ?_
  refine own_S (mkF m 19 #[iv sl, .val (.long nn), .second, iv x0, iv x1, .val (.long sc), .second, iv kk, .unset, .unset, .unset, .unset, .unset] [(.int (x0 &&& (255 : Int32))), (.int 0), (.ref cs), (.ref cs)]) (fun _ k => XS.iand X1.here hx rfl (hb hby at_18) rfl k) ?_
  refine own_S (mkF m 20 #[iv sl, .val (.long nn), .second, iv x0, iv x1, .val (.long sc), .second, iv kk, .unset, .unset, .unset, .unset, .unset] [(.int (((x0 &&& (255 : Int32))).toUInt32.toUInt16.toUInt32.toInt32)), (.int 0), (.ref cs), (.ref cs)]) (fun _ k => XS.i2c X1.here hx rfl (hb hby at_19) rfl k) ?_
  obtain ⟨T8, h8, X8, e8, W8, AR8, st8⟩ := own_stC (j := (0 : Int32)) X1 hx hZ e1 F7 (by decide) (show (0 : Nat) < 2 from by decide) (g := (mkF m 20 #[iv sl, .val (.long nn), .second, iv x0, iv x1, .val (.long sc), .second, iv kk, .unset, .unset, .unset, .unset, .unset] [(.int (((x0 &&& (255 : Int32))).toUInt32.toUInt16.toUInt32.toInt32)), (.int 0), (.ref cs), (.ref cs)])) rfl rfl (hb hby at_20)
  refine own_S (mkF m 21 #[iv sl, .val (.long nn), .second, iv x0, iv x1, .val (.long sc), .second, iv kk, .unset, .unset, .unset, .unset, .unset] [(.ref cs)]) st8 ?_
  have F9 := F3.wr W8 ge_cs
  have F10 := F4.wr W8
  have F11 := F5.wr W8
  have F12 := F6.other W8 n2
  have F13 : own_Ar Z h8 cs cA1 .char [(.int (nar .char (((x0 &&& (255 : Int32))).toUInt32.toUInt16.toUInt32.toInt32))), (.int (0 : Int32))] := AR8
  have N8 := Fr.snoc X8 N0 ge_cs
  have Z8 : n0 ≤ h8.size := by rw [Wr.size W8]; exact Z1
  refine own_S (mkF m 22 #[iv sl, .val (.long nn), .second, iv x0, iv x1, .val (.long sc), .second, iv kk, .unset, .unset, .unset, .unset, .unset] [(.ref cs), (.ref cs)]) (fun _ k => XS.dup X8.here hx rfl (hb hby at_21) rfl rfl k) ?_
  refine own_S (mkF m 23 #[iv sl, .val (.long nn), .second, iv x0, iv x1, .val (.long sc), .second, iv kk, .unset, .unset, .unset, .unset, .unset] [(.int 1), (.ref cs), (.ref cs)]) (fun _ k => XS.iconst X8.here hx rfl (hb hby at_22) k) ?_
  refine own_S (mkF m 25 #[iv sl, .val (.long nn), .second, iv x0, iv x1, .val (.long sc), .second, iv kk, .unset, .unset, .unset, .unset, .unset] [(.int x1), (.int 1), (.ref cs), (.ref cs)]) (fun _ k => XS.iload X8.here hx rfl (hb hby at_23) rfl k) ?_
  refine own_S (mkF m 28 #[iv sl, .val (.long nn), .second, iv x0, iv x1, .val (.long sc), .second, iv kk, .unset, .unset, .unset, .unset, .unset] [(.int 255), (.int x1), (.int 1), (.ref cs), (.ref cs)]) (fun _ k => XS.sipush X8.here hx rfl (hb hby at_25) k) ?_
  refine own_S (mkF m 29 #[iv sl, .val (.long nn), .second, iv x0, iv x1, .val (.long sc), .second, iv kk, .unset, .unset, .unset, .unset, .unset] [(.int (x1 &&& (255 : Int32))), (.int 1), (.ref cs), (.ref cs)]) (fun _ k => XS.iand X8.here hx rfl (hb hby at_28) rfl k) ?_
  refine own_S (mkF m 30 #[iv sl, .val (.long nn), .second, iv x0, iv x1, .val (.long sc), .second, iv kk, .unset, .unset, .unset, .unset, .unset] [(.int (((x1 &&& (255 : Int32))).toUInt32.toUInt16.toUInt32.toInt32)), (.int 1), (.ref cs), (.ref cs)]) (fun _ k => XS.i2c X8.here hx rfl (hb hby at_29) rfl k) ?_
  obtain ⟨T14, h14, X14, e14, W14, AR14, st14⟩ := own_stC (j := (1 : Int32)) X8 hx hZ e8 F13 (by decide) (show (1 : Nat) < 2 from by decide) (g := (mkF m 30 #[iv sl, .val (.long nn), .second, iv x0, iv x1, .val (.long sc), .second, iv kk, .unset, .unset, .unset, .unset, .unset] [(.int (((x1 &&& (255 : Int32))).toUInt32.toUInt16.toUInt32.toInt32)), (.int 1), (.ref cs), (.ref cs)])) rfl rfl (hb hby at_30)
  refine own_S (mkF m 31 #[iv sl, .val (.long nn), .second, iv x0, iv x1, .val (.long sc), .second, iv kk, .unset, .unset, .unset, .unset, .unset] [(.ref cs)]) st14 ?_
  have F15 := F9.wr W14 ge_cs
  have F16 := F10.wr W14
  have F17 := F11.wr W14
  have F18 := F12.other W14 n2
  have F19 : own_Ar Z h14 cs cA1 .char [(.int (nar .char (((x0 &&& (255 : Int32))).toUInt32.toUInt16.toUInt32.toInt32))), (.int (nar .char (((x1 &&& (255 : Int32))).toUInt32.toUInt16.toUInt32.toInt32)))] := AR14
  have N14 := Fr.snoc X14 N8 ge_cs
  have Z14 : n0 ≤ h14.size := by rw [Wr.size W14]; exact Z8
  obtain ⟨c0, h_c0⟩ : ∃ z : Int32, z = (nar .char (((x0 &&& (255 : Int32))).toUInt32.toUInt16.toUInt32.toInt32)) := ⟨_, rfl⟩
  have p0 : ¬ ((255 : Int32) < c0) := by rw [h_c0]; exact own_ch x0
  rw [← h_c0] at F19
  obtain ⟨c1, h_c1⟩ : ∃ z : Int32, z = (nar .char (((x1 &&& (255 : Int32))).toUInt32.toUInt16.toUInt32.toInt32)) := ⟨_, rfl⟩
  have p1 : ¬ ((255 : Int32) < c1) := by rw [h_c1]; exact own_ch x1
  rw [← h_c1] at F19
  refine own_S (mkF m 33 #[iv sl, .val (.long nn), .second, iv x0, iv x1, .val (.long sc), .second, iv kk, rv cs, .unset, .unset, .unset, .unset] []) (fun _ k => XS.astore X14.here hx rfl (hb hby at_31) rfl rfl (l' := #[iv sl, .val (.long nn), .second, iv x0, iv x1, .val (.long sc), .second, iv kk, rv cs, .unset, .unset, .unset, .unset]) rfl k) ?_
  obtain ⟨T20, h20, X20, e20, E20, A20, D20, -, st20⟩ := newO X14 hx hZ hown (own_g hw (i := 2) rfl) (own_g hw (i := 3) rfl) (own_g hw (i := 4) rfl) e14 (g := (mkF m 33 #[iv sl, .val (.long nn), .second, iv x0, iv x1, .val (.long sc), .second, iv kk, rv cs, .unset, .unset, .unset, .unset] [])) rfl (hb hby at_33) (by decide) (by decide)
  obtain ⟨st, g20⟩ : ∃ z, z = h14.size := ⟨_, rfl⟩
  rw [← g20] at A20 D20 st20
  have n21 : ea ≠ st := Nat.ne_of_lt (Nat.lt_of_lt_of_eq F18.lt g20.symm)
  have n22 : cs ≠ st := Nat.ne_of_lt (Nat.lt_of_lt_of_eq F19.lt g20.symm)
  have ge_st : n0 ≤ st := Nat.le_trans Z14 (Nat.le_of_eq g20.symm)
  have F23 := F15.ext E20
  have F24 := F16.ext E20
  have F25 := F17.ext E20
  have F26 := F18.ext E20
  have F27 := F19.ext E20
  have Z20 : n0 ≤ h20.size := Nat.le_trans Z14 E20.1
  have F28 : Fld Z h20 st "java/lang/String" "coder" "B" (.int (0 : Int32)) := D20 (Or.inr (own_g hw (i := 28) rfl)) (ty := .byte) (by decide)
  have F29 : Fld Z h20 st "java/lang/String" "value" "[B" .null := D20 (Or.inr (own_g hw (i := 30) rfl)) (ty := (.array .byte)) (by decide)
  refine own_S (mkF m 36 #[iv sl, .val (.long nn), .second, iv x0, iv x1, .val (.long sc), .second, iv kk, rv cs, .unset, .unset, .unset, .unset] [(.ref st)]) st20 ?_
  refine own_S (mkF m 37 #[iv sl, .val (.long nn), .second, iv x0, iv x1, .val (.long sc), .second, iv kk, rv cs, .unset, .unset, .unset, .unset] [(.ref st), (.ref st)]) (fun _ k => XS.dup X20.here hx rfl (hb hby at_36) rfl rfl k) ?_
  refine own_S (mkF m 39 #[iv sl, .val (.long nn), .second, iv x0, iv x1, .val (.long sc), .second, iv kk, rv cs, .unset, .unset, .unset, .unset] [(.ref cs), (.ref st), (.ref st)]) (fun _ k => XS.aload X20.here hx rfl (hb hby at_37) rfl rfl k) ?_
  obtain ⟨_, _, ⟨T30, L30, k30, n30⟩, -, X30, ⟨Lc30, hQ30, l30, y30, z30⟩, st30⟩ := X20.specialBack hx (y := own_y7) rfl hown (mvT hZ (own_g hw (i := 5) rfl)) (mvT hZ (own_g hw (i := 6) rfl)) (mvT hZ (own_g hw (i := 7) rfl)) (by decide) (backOf (W := 1) (own_rms1 l Z a0 hw [] (st) (cs) (cA1) (c0) (c1) (cz) ((.int (0 : Int32))) (.null) h20 n0 Z20 A20 F28 F29 F27 F24 ge_st (Ne.symm n22) p0 p1 hz) hZ (own_g hw (i := 7) rfl) (own_g hw (i := 4) rfl) (by decide) (by decide)) (g := (mkF m 39 #[iv sl, .val (.long nn), .second, iv x0, iv x1, .val (.long sc), .second, iv kk, rv cs, .unset, .unset, .unset, .unset] [(.ref cs), (.ref st), (.ref st)])) rfl (by rw [hml]; rfl) (Steps.refl _) (a := st) (argsL := [(.ref cs)]) (rest := [(.ref st)]) (lenOf own_pd___C_V rfl) rfl (by show 2 * 0 + _ ≤ _; exact Nat.le_of_eq rfl) (hb hby at_39) (fun _ _ => ⟨rfl, e20, (by decide : 2 + 1 ≤ _), (by decide : 6 + 2 ≤ _)⟩)
  dsimp only [Pt.U, Pt.locs, Pt.cells, Pt.slots] at X30 l30 y30 z30 st30 hQ30
  subst l30 y30 z30
  obtain ⟨rfl, N30q, K30q, F31⟩ := hQ30
  have N30 := Fr.app N14 N30q
  refine own_S (mkF m 42 #[iv sl, .val (.long nn), .second, iv x0, iv x1, .val (.long sc), .second, iv kk, rv cs, .unset, .unset, .unset, .unset] [(.ref st)]) (fun _ k => st30.trans k) ?_
  have F32 := F23.keep K30q (allS ge_st all0)
  have F33 := Sta_keep (n0 := 0) F24 K30q ((own_allS (old_plain F29) (fun _ q => nomatch q)))
  have F34 := Sta_keep (n0 := 0) F25 K30q ((own_allS (old_plain F29) (fun _ q => nomatch q)))
  have F35 := F26.keep K30q (ninS n21 nin0)
  have F36 := F27.keep K30q (ninS n22 nin0)
  have Z30 : n0 ≤ T30.heap.size := Nat.le_trans Z20 K30q.1
  refine own_S (mkF m 44 #[iv sl, .val (.long nn), .second, iv x0, iv x1, .val (.long sc), .second, iv kk, rv cs, rv st, .unset, .unset, .unset] []) (fun _ k => XS.astore X30.here hx rfl (hb hby at_42) rfl rfl (l' := #[iv sl, .val (.long nn), .second, iv x0, iv x1, .val (.long sc), .second, iv kk, rv cs, rv st, .unset, .unset, .unset]) rfl k) ?_
  obtain ⟨T37, h37, X37, e37, E37, A37, D37, -, st37⟩ := newO X30 hx hZ hown (own_g hw (i := 31) rfl) (own_g hw (i := 32) rfl) (own_g hw (i := 33) rfl) rfl (g := (mkF m 44 #[iv sl, .val (.long nn), .second, iv x0, iv x1, .val (.long sc), .second, iv kk, rv cs, rv st, .unset, .unset, .unset] [])) rfl (hb hby at_44) (by decide) (by decide)
  obtain ⟨al, g37⟩ : ∃ z, z = T30.heap.size := ⟨_, rfl⟩
  rw [← g37] at A37 D37 st37
  have n38 : ea ≠ al := Nat.ne_of_lt (Nat.lt_of_lt_of_eq F35.lt g37.symm)
  have n39 : cs ≠ al := Nat.ne_of_lt (Nat.lt_of_lt_of_eq F36.lt g37.symm)
  have n40 : st ≠ al := Nat.ne_of_lt (Nat.lt_of_lt_of_eq F31.lt g37.symm)
  have ge_al : n0 ≤ al := Nat.le_trans Z30 (Nat.le_of_eq g37.symm)
  have F41 := F32.ext E37
  have F42 := F33.ext E37
  have F43 := F34.ext E37
  have F44 := F35.ext E37
  have F45 := F36.ext E37
  have F46 := F31.ext E37
  have Z37 : n0 ≤ h37.size := Nat.le_trans Z30 E37.1
  have F47 : Fld Z h37 al "java/util/AbstractList" "modCount" "I" (.int (0 : Int32)) := D37 (Or.inl (own_g hw (i := 51) rfl)) (ty := .int) (by decide)
  have F48 : Fld Z h37 al "java/util/ArrayList" "elementData" "[Ljava/lang/Object;" .null := D37 (Or.inl (own_g hw (i := 54) rfl)) (ty := (.array (.object "java/lang/Object"))) (by decide)
  have F49 : Fld Z h37 al "java/util/ArrayList" "size" "I" (.int (0 : Int32)) := D37 (Or.inl (own_g hw (i := 71) rfl)) (ty := .int) (by decide)
  refine own_S (mkF m 47 #[iv sl, .val (.long nn), .second, iv x0, iv x1, .val (.long sc), .second, iv kk, rv cs, rv st, .unset, .unset, .unset] [(.ref al)]) st37 ?_
  refine own_S (mkF m 48 #[iv sl, .val (.long nn), .second, iv x0, iv x1, .val (.long sc), .second, iv kk, rv cs, rv st, .unset, .unset, .unset] [(.ref al), (.ref al)]) (fun _ k => XS.dup X37.here hx rfl (hb hby at_47) rfl rfl k) ?_
  obtain ⟨_, _, ⟨T50, L50, k50, n50⟩, -, X50, ⟨Lc50, hQ50, l50, y50, z50⟩, st50⟩ := X37.specialBack hx (y := own_y10) rfl hown (mvT hZ (own_g hw (i := 34) rfl)) (mvT hZ (own_g hw (i := 35) rfl)) (mvT hZ (own_g hw (i := 36) rfl)) (by decide) (backOf (W := 1) (own_rmai l Z a0 hw [] (al) (ea) ((.int (0 : Int32))) (.null) ((.int (0 : Int32))) h37 n0 Z37 A37 F47 F48 F49 F43 ge_al) hZ (own_g hw (i := 36) rfl) (own_g hw (i := 33) rfl) (by decide) (by decide)) (g := (mkF m 48 #[iv sl, .val (.long nn), .second, iv x0, iv x1, .val (.long sc), .second, iv kk, rv cs, rv st, .unset, .unset, .unset] [(.ref al), (.ref al)])) rfl (by rw [hml]; rfl) (Steps.refl _) (a := al) (argsL := []) (rest := [(.ref al)]) (lenOf own_pd___V rfl) rfl (by show 2 * 0 + _ ≤ _; exact Nat.le_of_eq rfl) (hb hby at_48) (fun _ _ => ⟨rfl, e37, (by decide : 4 + 0 ≤ _), (by decide : 11 + 0 ≤ _)⟩)
  dsimp only [Pt.U, Pt.locs, Pt.cells, Pt.slots] at X50 l50 y50 z50 st50 hQ50
  subst l50 y50 z50
  obtain ⟨rfl, N50q, K50q, F51, F52, F53, F54⟩ := hQ50
  have N50 := Fr.app N30 N50q
  refine own_S (mkF m 51 #[iv sl, .val (.long nn), .second, iv x0, iv x1, .val (.long sc), .second, iv kk, rv cs, rv st, .unset, .unset, .unset] [(.ref al)]) (fun _ k => st50.trans k) ?_
  have F55 := F41.keep K50q (allS ge_al all0)
  have F56 := Sta_keep (n0 := 0) F42 K50q ((own_allS (old_plain F49) (fun _ q => nomatch q)))
  have F57 := Sta_keep (n0 := 0) F43 K50q ((own_allS (old_plain F49) (fun _ q => nomatch q)))
  have F58 := F44.keep K50q (ninS n38 nin0)
  have F59 := F45.keep K50q (ninS n39 nin0)
  have F60 := F46.keep K50q
  have Z50 : n0 ≤ T50.heap.size := Nat.le_trans Z37 K50q.1
  refine own_S (mkF m 53 #[iv sl, .val (.long nn), .second, iv x0, iv x1, .val (.long sc), .second, iv kk, rv cs, rv st, rv al, .unset, .unset] []) (fun _ k => XS.astore X50.here hx rfl (hb hby at_51) rfl rfl (l' := #[iv sl, .val (.long nn), .second, iv x0, iv x1, .val (.long sc), .second, iv kk, rv cs, rv st, rv al, .unset, .unset]) rfl k) ?_
  refine own_S (mkF m 55 #[iv sl, .val (.long nn), .second, iv x0, iv x1, .val (.long sc), .second, iv kk, rv cs, rv st, rv al, .unset, .unset] [(.ref al)]) (fun _ k => XS.aload X50.here hx rfl (hb hby at_53) rfl rfl k) ?_
  refine own_S (mkF m 56 #[iv sl, .val (.long nn), .second, iv x0, iv x1, .val (.long sc), .second, iv kk, rv cs, rv st, rv al, .unset, .unset] [(.long nn), (.ref al)]) (fun _ k => XS.lloadN X50.here hx rfl (hb hby at_55) rfl k) ?_
  obtain ⟨_, _, ⟨T61, L61, k61, n61⟩, -, X61, ⟨Lc61, hQ61, l61, y61, z61⟩, st61⟩ := Jvm.LawKit.callS X50 hx (y := own_y2) hown (mvT hZ (own_g hw (i := 55) rfl)) (mvT hZ (own_g hw (i := 56) rfl)) (mvT hZ (own_g hw (i := 57) rfl)) (mvT hZ (own_g hw (i := 58) rfl)) (by decide) (backOf (W := 1) (own_rmvo l Z a0 hw [] (nn) (ca0) T50.heap n0 Z50 F55 hS hC) hZ (own_g hw (i := 58) rfl) (own_g hw (i := 57) rfl) (by decide) (by decide)) (g := (mkF m 56 #[iv sl, .val (.long nn), .second, iv x0, iv x1, .val (.long sc), .second, iv kk, rv cs, rv st, rv al, .unset, .unset] [(.long nn), (.ref al)])) rfl (by rw [hml]; rfl) (argsL := [(.long nn)]) (rest := [(.ref al)]) (lenOf own_pd__J_Ljava_lang_Long_ rfl) rfl (by show 2 * 0 + _ ≤ _; exact Nat.le_of_eq rfl) (hb hby at_56) (fun _ _ => ⟨rfl, rfl, (by decide : 4 + 1 ≤ _), (by decide : 11 + 1 ≤ _)⟩)
  dsimp only [Pt.U, Pt.locs, Pt.cells, Pt.slots] at X61 l61 y61 z61 st61 hQ61
  subst l61 y61 z61
  obtain ⟨lg, rfl, N61q, K61q, F62, F63⟩ := hQ61
  have N61 := Fr.app N50 N61q
  refine own_S (mkF m 59 #[iv sl, .val (.long nn), .second, iv x0, iv x1, .val (.long sc), .second, iv kk, rv cs, rv st, rv al, .unset, .unset] [(.ref lg), (.ref al)]) (fun _ k => st61 _ k) ?_
  have F64 := F55.keep K61q all0
  have F65 := F56.ext ⟨K61q.1, fun a c q => K61q.2.1 a c q nin0⟩
  have F66 := F57.ext ⟨K61q.1, fun a c q => K61q.2.1 a c q nin0⟩
  have F67 := F58.keep K61q nin0
  have F68 := F59.keep K61q nin0
  have F69 := F60.keep K61q
  have F70 := F51.keep K61q
  have F71 := F52.keep K61q nin0
  have F72 := F53.keep K61q nin0
  have F73 := F54.keep K61q nin0
  have Z61 : n0 ≤ T61.heap.size := Nat.le_trans Z50 K61q.1
  obtain ⟨cq74, kq74, q74a, q74b, q74c⟩ := isOf hZ rfl F70
  obtain ⟨_, _, ⟨T74, L74, k74, n74⟩, -, X74, ⟨Lc74, hQ74, l74, y74, z74⟩, st74⟩ := X61.virtualBack hx (y := own_y15) (z := own_y15) hown (mvT hZ (own_g hw (i := 63) rfl)) (mvT hZ (own_g hw (i := 64) rfl)) (notFace_of_selects (args := #[]) (mvT hZ (own_g hw (i := 66) rfl))) (mvT hZ (own_g hw (i := 66) rfl)) (mvT hZ (own_g hw (i := 65) rfl)) (by decide) (backOf (W := 0) (own_rmaa l Z a0 hw [] (al) (ea) (ke) (lg) T61.heap n0 Z61 F70 F71 F72 F73 F67 F66 F62 ge_al (Ne.symm n38)) hZ (own_g hw (i := 67) rfl) (own_g hw (i := 33) rfl) (by decide) (by decide)) q74a q74c (g := (mkF m 59 #[iv sl, .val (.long nn), .second, iv x0, iv x1, .val (.long sc), .second, iv kk, rv cs, rv st, rv al, .unset, .unset] [(.ref lg), (.ref al)])) rfl (by rw [hml]; rfl) (Steps.refl _) (argsL := [(.ref lg)]) (rest := []) (lenOf own_pd__Ljava_lang_Object__Z rfl) rfl (by show 2 * 0 + _ ≤ _; exact Nat.le_of_eq rfl) (hb hby at_59) (fun _ _ => ⟨rfl, rfl, (by decide : 5 + 1 ≤ _), (by decide : 12 + 10 ≤ _)⟩)
  dsimp only [Pt.U, Pt.locs, Pt.cells, Pt.slots] at X74 l74 y74 z74 st74 hQ74
  subst l74 y74 z74
  obtain ⟨rfl, N74q, K74q, F75⟩ := hQ74
  have N74 := Fr.app N61 N74q
  refine own_S (mkF m 62 #[iv sl, .val (.long nn), .second, iv x0, iv x1, .val (.long sc), .second, iv kk, rv cs, rv st, rv al, .unset, .unset] [(.int 1)]) (fun _ k => st74.trans k) ?_
  have F76 := F64.keep K74q (allS ge_al all0)
  have F77 := Sta_keep (n0 := 0) F65 K74q ((own_allS (old_plain F73) (fun _ q => nomatch q)))
  have F78 := Sta_keep (n0 := 0) F66 K74q ((own_allS (old_plain F73) (fun _ q => nomatch q)))
  have F79 := F67.keep K74q (ninS n38 nin0)
  have F80 := F68.keep K74q (ninS n39 nin0)
  have F81 := F69.keep K74q
  have F82 := F62.keep K74q
  have F83 := F63.keep K74q (ninS (ne_exa F62 F70 (by decide)) nin0)
  have Z74 : n0 ≤ T74.heap.size := Nat.le_trans Z61 K74q.1
  refine own_S (mkF m 63 #[iv sl, .val (.long nn), .second, iv x0, iv x1, .val (.long sc), .second, iv kk, rv cs, rv st, rv al, .unset, .unset] []) (fun _ k => XS.pop X74.here hx rfl (hb hby at_62) rfl rfl k) ?_
  refine own_S (mkF m 65 #[iv sl, .val (.long nn), .second, iv x0, iv x1, .val (.long sc), .second, iv kk, rv cs, rv st, rv al, .unset, .unset] [(.int kk)]) (fun _ k => XS.iload X74.here hx rfl (hb hby at_63) rfl k) ?_
  rcases o_kk with q84_0 | q85_1 | q86_2 | q87_3 | q88_4 | q89_5
  · -- kk = 0
    subst q84_0
    have hc90 : (0 : Int32) = (0 : Int32) := by decide
    refine own_S (mkF m 68 #[iv sl, .val (.long nn), .second, iv x0, iv x1, .val (.long sc), .second, .val (.int 0), rv cs, rv st, rv al, .unset, .unset] []) (fun _ k => XS.ifNo X74.here hx rfl (hb hby at_65) rfl ((if0 _ _).trans (teq hc90).2) k) ?_
    refine own_S (mkF m 69 #[iv sl, .val (.long nn), .second, iv x0, iv x1, .val (.long sc), .second, .val (.int 0), rv cs, rv st, rv al, .unset, .unset] [.null]) (fun _ k => XS.aconstNull X74.here hx rfl (hb hby at_68) k) ?_
    refine own_S (mkF m 71 #[iv sl, .val (.long nn), .second, iv x0, iv x1, .val (.long sc), .second, .val (.int 0), rv cs, rv st, rv al, .val .null, .unset] []) (fun _ k => XS.astore X74.here hx rfl (hb hby at_69) rfl rfl (l' := #[iv sl, .val (.long nn), .second, iv x0, iv x1, .val (.long sc), .second, .val (.int 0), rv cs, rv st, rv al, .val .null, .unset]) rfl k) ?_
    refine own_S (mkF m 148 #[iv sl, .val (.long nn), .second, iv x0, iv x1, .val (.long sc), .second, .val (.int 0), rv cs, rv st, rv al, .val .null, .unset] []) (fun _ k => XS.goto X74.here hx rfl (pc0 := 71) (pc' := 148) rfl (hb hby at_71) (by decide) (by decide) k) ?_
    refine own_S (mkF m 150 #[iv sl, .val (.long nn), .second, iv x0, iv x1, .val (.long sc), .second, .val (.int 0), rv cs, rv st, rv al, .val .null, .unset] [(.int 0)]) (fun _ k => XS.iload X74.here hx rfl (hb hby at_148) rfl k) ?_
    refine own_S (mkF m 151 #[iv sl, .val (.long nn), .second, iv x0, iv x1, .val (.long sc), .second, .val (.int 0), rv cs, rv st, rv al, .val .null, .unset] [(.int 1), (.int 0)]) (fun _ k => XS.iconst X74.here hx rfl (hb hby at_150) k) ?_
    have hc91 : ¬ ((0 : Int32) = (1 : Int32)) := by decide
    refine own_S (mkF m 154 #[iv sl, .val (.long nn), .second, iv x0, iv x1, .val (.long sc), .second, .val (.int 0), rv cs, rv st, rv al, .val .null, .unset] []) (fun _ k => XS.icmpNo X74.here hx rfl (hb hby at_151) rfl (feq hc91).1 k) ?_
    refine own_S (mkF m 156 #[iv sl, .val (.long nn), .second, iv x0, iv x1, .val (.long sc), .second, .val (.int 0), rv cs, rv st, rv al, .val .null, .unset] [(.int 0)]) (fun _ k => XS.iload X74.here hx rfl (hb hby at_154) rfl k) ?_
    refine own_S (mkF m 157 #[iv sl, .val (.long nn), .second, iv x0, iv x1, .val (.long sc), .second, .val (.int 0), rv cs, rv st, rv al, .val .null, .unset] [(.int 2), (.int 0)]) (fun _ k => XS.iconst X74.here hx rfl (hb hby at_156) k) ?_
    have hc92 : ¬ ((0 : Int32) = (2 : Int32)) := by decide
    refine own_S (mkF m 164 #[iv sl, .val (.long nn), .second, iv x0, iv x1, .val (.long sc), .second, .val (.int 0), rv cs, rv st, rv al, .val .null, .unset] []) (fun _ k => XS.icmpYes X74.here hx rfl (pc0 := 157) (pc' := 164) rfl (hb hby at_157) rfl (feq hc92).2 (by decide) (by decide) k) ?_
    refine own_S (mkF m 165 #[iv sl, .val (.long nn), .second, iv x0, iv x1, .val (.long sc), .second, .val (.int 0), rv cs, rv st, rv al, .val .null, .unset] [(.int 0)]) (fun _ k => XS.iconst X74.here hx rfl (hb hby at_164) k) ?_
    refine own_S (mkF m 167 #[iv sl, .val (.long nn), .second, iv x0, iv x1, .val (.long sc), .second, .val (.int 0), rv cs, rv st, rv al, .val .null, .val (.int 0)] []) (fun _ k => XS.istore X74.here hx rfl (hb hby at_165) rfl (l' := #[iv sl, .val (.long nn), .second, iv x0, iv x1, .val (.long sc), .second, .val (.int 0), rv cs, rv st, rv al, .val .null, .val (.int 0)]) rfl k) ?_
    refine own_S (mkF m 169 #[iv sl, .val (.long nn), .second, iv x0, iv x1, .val (.long sc), .second, .val (.int 0), rv cs, rv st, rv al, .val .null, .val (.int 0)] [.null]) (fun _ k => XS.aload X74.here hx rfl (hb hby at_167) rfl rfl k) ?_
    obtain ⟨_, _, ⟨T93, L93, k93, n93⟩, -, X93, ⟨Lc93, hQ93, l93, y93, z93⟩, st93⟩ := Jvm.LawKit.callS X74 hx (y := own_y19) hown (mvT hZ (own_g hw (i := 94) rfl)) (mvT hZ (own_g hw (i := 95) rfl)) (mvT hZ (own_g hw (i := 96) rfl)) (mvT hZ (own_g hw (i := 97) rfl)) (by decide) (backOf (W := 0) (own_rmisN l Z a0 hw []  T74.heap n0 Z74 ) hZ (own_g hw (i := 97) rfl) (own_g hw (i := 96) rfl) (by decide) (by decide)) (g := (mkF m 169 #[iv sl, .val (.long nn), .second, iv x0, iv x1, .val (.long sc), .second, .val (.int 0), rv cs, rv st, rv al, .val .null, .val (.int 0)] [.null])) rfl (by rw [hml]; rfl) (argsL := [.null]) (rest := []) (lenOf own_pd__Ljava_lang_Object__Z rfl) rfl (by show 2 * 0 + _ ≤ _; exact Nat.le_of_eq rfl) (hb hby at_169) (fun _ _ => ⟨rfl, rfl, (by decide : 6 + 0 ≤ _), (by decide : 22 + 0 ≤ _)⟩)
    dsimp only [Pt.U, Pt.locs, Pt.cells, Pt.slots] at X93 l93 y93 z93 st93 hQ93
    subst l93 y93 z93
    obtain ⟨rfl, N93q, e93⟩ := hQ93
    have N93 := Fr.app N74 N93q
    refine own_S (mkF m 172 #[iv sl, .val (.long nn), .second, iv x0, iv x1, .val (.long sc), .second, .val (.int 0), rv cs, rv st, rv al, .val .null, .val (.int 0)] [(.int 0)]) (fun _ k => st93 _ k) ?_
    refine own_S (mkF m 174 #[iv sl, .val (.long nn), .second, iv x0, iv x1, .val (.long sc), .second, .val (.int 0), rv cs, rv st, rv al, .val .null, .val (.int 0)] [(.int 0), (.int 0)]) (fun _ k => XS.iload X93.here hx rfl (hb hby at_172) rfl k) ?_
    have hc94 : (0 : Int32) = (0 : Int32) := by decide
    refine own_S (mkF m 177 #[iv sl, .val (.long nn), .second, iv x0, iv x1, .val (.long sc), .second, .val (.int 0), rv cs, rv st, rv al, .val .null, .val (.int 0)] []) (fun _ k => XS.icmpNo X93.here hx rfl (hb hby at_174) rfl (teq hc94).2 k) ?_
    refine own_S (mkF m 178 #[iv sl, .val (.long nn), .second, iv x0, iv x1, .val (.long sc), .second, .val (.int 0), rv cs, rv st, rv al, .val .null, .val (.int 0)] [(.int 1)]) (fun _ k => XS.iconst X93.here hx rfl (hb hby at_177) k) ?_
    refine own_S (mkF m 182 #[iv sl, .val (.long nn), .second, iv x0, iv x1, .val (.long sc), .second, .val (.int 0), rv cs, rv st, rv al, .val .null, .val (.int 0)] [(.int 1)]) (fun _ k => XS.goto X93.here hx rfl (pc0 := 178) (pc' := 182) rfl (hb hby at_178) (by decide) (by decide) k) ?_
    exact own_retN X93 hx hlk (t := .boolean) hret (by simp) (hb hby at_182) (by rw [e93]; exact ⟨rfl, N93, trivial⟩) (by decide) (by decide)
  · -- kk = 1
    subst q85_1
    have hc95 : ¬ ((1 : Int32) = (0 : Int32)) := by decide
    refine own_S (mkF m 74 #[iv sl, .val (.long nn), .second, iv x0, iv x1, .val (.long sc), .second, .val (.int 1), rv cs, rv st, rv al, .unset, .unset] []) (fun _ k => XS.ifYes X74.here hx rfl (pc0 := 65) (pc' := 74) rfl (hb hby at_65) rfl ((if0 _ _).trans (feq hc95).2) (by decide) (by decide) k) ?_
    refine own_S (mkF m 76 #[iv sl, .val (.long nn), .second, iv x0, iv x1, .val (.long sc), .second, .val (.int 1), rv cs, rv st, rv al, .unset, .unset] [(.int 1)]) (fun _ k => XS.iload X74.here hx rfl (hb hby at_74) rfl k) ?_
    refine own_S (mkF m 77 #[iv sl, .val (.long nn), .second, iv x0, iv x1, .val (.long sc), .second, .val (.int 1), rv cs, rv st, rv al, .unset, .unset] [(.int 1), (.int 1)]) (fun _ k => XS.iconst X74.here hx rfl (hb hby at_76) k) ?_
    have hc96 : (1 : Int32) = (1 : Int32) := by decide
    refine own_S (mkF m 80 #[iv sl, .val (.long nn), .second, iv x0, iv x1, .val (.long sc), .second, .val (.int 1), rv cs, rv st, rv al, .unset, .unset] []) (fun _ k => XS.icmpNo X74.here hx rfl (hb hby at_77) rfl (teq hc96).2 k) ?_
    refine own_S (mkF m 81 #[iv sl, .val (.long nn), .second, iv x0, iv x1, .val (.long sc), .second, .val (.int 1), rv cs, rv st, rv al, .unset, .unset] [(.long nn)]) (fun _ k => XS.lloadN X74.here hx rfl (hb hby at_80) rfl k) ?_
    obtain ⟨_, _, ⟨T97, L97, k97, n97⟩, -, X97, ⟨Lc97, hQ97, l97, y97, z97⟩, st97⟩ := Jvm.LawKit.callS X74 hx (y := own_y2) hown (mvT hZ (own_g hw (i := 55) rfl)) (mvT hZ (own_g hw (i := 56) rfl)) (mvT hZ (own_g hw (i := 57) rfl)) (mvT hZ (own_g hw (i := 58) rfl)) (by decide) (backOf (W := 0) (own_rmvo l Z a0 hw [] (nn) (ca0) T74.heap n0 Z74 F76 hS hC) hZ (own_g hw (i := 58) rfl) (own_g hw (i := 57) rfl) (by decide) (by decide)) (g := (mkF m 81 #[iv sl, .val (.long nn), .second, iv x0, iv x1, .val (.long sc), .second, .val (.int 1), rv cs, rv st, rv al, .unset, .unset] [(.long nn)])) rfl (by rw [hml]; rfl) (argsL := [(.long nn)]) (rest := []) (lenOf own_pd__J_Ljava_lang_Long_ rfl) rfl (by show 2 * 0 + _ ≤ _; exact Nat.le_of_eq rfl) (hb hby at_81) (fun _ _ => ⟨rfl, rfl, (by decide : 6 + 1 ≤ _), (by decide : 22 + 1 ≤ _)⟩)
    dsimp only [Pt.U, Pt.locs, Pt.cells, Pt.slots] at X97 l97 y97 z97 st97 hQ97
    subst l97 y97 z97
    obtain ⟨lg2, rfl, N97q, K97q, F98, F99⟩ := hQ97
    have N97 := Fr.app N74 N97q
    refine own_S (mkF m 84 #[iv sl, .val (.long nn), .second, iv x0, iv x1, .val (.long sc), .second, .val (.int 1), rv cs, rv st, rv al, .unset, .unset] [(.ref lg2)]) (fun _ k => st97 _ k) ?_
    have F100 := F76.keep K97q all0
    have F101 := F77.ext ⟨K97q.1, fun a c q => K97q.2.1 a c q nin0⟩
    have F102 := F78.ext ⟨K97q.1, fun a c q => K97q.2.1 a c q nin0⟩
    have F103 := F79.keep K97q nin0
    have F104 := F80.keep K97q nin0
    have F105 := F81.keep K97q
    have F106 := F82.keep K97q
    have F107 := F83.keep K97q nin0
    have F108 := F75.keep K97q
    have Z97 : n0 ≤ T97.heap.size := Nat.le_trans Z74 K97q.1
    refine own_S (mkF m 86 #[iv sl, .val (.long nn), .second, iv x0, iv x1, .val (.long sc), .second, .val (.int 1), rv cs, rv st, rv al, rv lg2, .unset] []) (fun _ k => XS.astore X97.here hx rfl (hb hby at_84) rfl rfl (l' := #[iv sl, .val (.long nn), .second, iv x0, iv x1, .val (.long sc), .second, .val (.int 1), rv cs, rv st, rv al, rv lg2, .unset]) rfl k) ?_
    refine own_S (mkF m 148 #[iv sl, .val (.long nn), .second, iv x0, iv x1, .val (.long sc), .second, .val (.int 1), rv cs, rv st, rv al, rv lg2, .unset] []) (fun _ k => XS.goto X97.here hx rfl (pc0 := 86) (pc' := 148) rfl (hb hby at_86) (by decide) (by decide) k) ?_
    refine own_S (mkF m 150 #[iv sl, .val (.long nn), .second, iv x0, iv x1, .val (.long sc), .second, .val (.int 1), rv cs, rv st, rv al, rv lg2, .unset] [(.int 1)]) (fun _ k => XS.iload X97.here hx rfl (hb hby at_148) rfl k) ?_
    refine own_S (mkF m 151 #[iv sl, .val (.long nn), .second, iv x0, iv x1, .val (.long sc), .second, .val (.int 1), rv cs, rv st, rv al, rv lg2, .unset] [(.int 1), (.int 1)]) (fun _ k => XS.iconst X97.here hx rfl (hb hby at_150) k) ?_
    have hc109 : (1 : Int32) = (1 : Int32) := by decide
    refine own_S (mkF m 160 #[iv sl, .val (.long nn), .second, iv x0, iv x1, .val (.long sc), .second, .val (.int 1), rv cs, rv st, rv al, rv lg2, .unset] []) (fun _ k => XS.icmpYes X97.here hx rfl (pc0 := 151) (pc' := 160) rfl (hb hby at_151) rfl (teq hc109).1 (by decide) (by decide) k) ?_
    refine own_S (mkF m 161 #[iv sl, .val (.long nn), .second, iv x0, iv x1, .val (.long sc), .second, .val (.int 1), rv cs, rv st, rv al, rv lg2, .unset] [(.int 1)]) (fun _ k => XS.iconst X97.here hx rfl (hb hby at_160) k) ?_
    refine own_S (mkF m 165 #[iv sl, .val (.long nn), .second, iv x0, iv x1, .val (.long sc), .second, .val (.int 1), rv cs, rv st, rv al, rv lg2, .unset] [(.int 1)]) (fun _ k => XS.goto X97.here hx rfl (pc0 := 161) (pc' := 165) rfl (hb hby at_161) (by decide) (by decide) k) ?_
    refine own_S (mkF m 167 #[iv sl, .val (.long nn), .second, iv x0, iv x1, .val (.long sc), .second, .val (.int 1), rv cs, rv st, rv al, rv lg2, .val (.int 1)] []) (fun _ k => XS.istore X97.here hx rfl (hb hby at_165) rfl (l' := #[iv sl, .val (.long nn), .second, iv x0, iv x1, .val (.long sc), .second, .val (.int 1), rv cs, rv st, rv al, rv lg2, .val (.int 1)]) rfl k) ?_
    refine own_S (mkF m 169 #[iv sl, .val (.long nn), .second, iv x0, iv x1, .val (.long sc), .second, .val (.int 1), rv cs, rv st, rv al, rv lg2, .val (.int 1)] [(.ref lg2)]) (fun _ k => XS.aload X97.here hx rfl (hb hby at_167) rfl rfl k) ?_
    obtain ⟨_, _, ⟨T110, L110, k110, n110⟩, -, X110, ⟨Lc110, hQ110, l110, y110, z110⟩, st110⟩ := Jvm.LawKit.callS X97 hx (y := own_y19) hown (mvT hZ (own_g hw (i := 94) rfl)) (mvT hZ (own_g hw (i := 95) rfl)) (mvT hZ (own_g hw (i := 96) rfl)) (mvT hZ (own_g hw (i := 97) rfl)) (by decide) (backOf (W := 0) (own_rmisL l Z a0 hw [] (lg2) T97.heap n0 Z97 F98) hZ (own_g hw (i := 97) rfl) (own_g hw (i := 96) rfl) (by decide) (by decide)) (g := (mkF m 169 #[iv sl, .val (.long nn), .second, iv x0, iv x1, .val (.long sc), .second, .val (.int 1), rv cs, rv st, rv al, rv lg2, .val (.int 1)] [(.ref lg2)])) rfl (by rw [hml]; rfl) (argsL := [(.ref lg2)]) (rest := []) (lenOf own_pd__Ljava_lang_Object__Z rfl) rfl (by show 2 * 0 + _ ≤ _; exact Nat.le_of_eq rfl) (hb hby at_169) (fun _ _ => ⟨rfl, rfl, (by decide : 7 + 0 ≤ _), (by decide : 23 + 0 ≤ _)⟩)
    dsimp only [Pt.U, Pt.locs, Pt.cells, Pt.slots] at X110 l110 y110 z110 st110 hQ110
    subst l110 y110 z110
    obtain ⟨rfl, N110q, e110⟩ := hQ110
    have N110 := Fr.app N97 N110q
    refine own_S (mkF m 172 #[iv sl, .val (.long nn), .second, iv x0, iv x1, .val (.long sc), .second, .val (.int 1), rv cs, rv st, rv al, rv lg2, .val (.int 1)] [(.int 1)]) (fun _ k => st110 _ k) ?_
    refine own_S (mkF m 174 #[iv sl, .val (.long nn), .second, iv x0, iv x1, .val (.long sc), .second, .val (.int 1), rv cs, rv st, rv al, rv lg2, .val (.int 1)] [(.int 1), (.int 1)]) (fun _ k => XS.iload X110.here hx rfl (hb hby at_172) rfl k) ?_
    have hc111 : (1 : Int32) = (1 : Int32) := by decide
    refine own_S (mkF m 177 #[iv sl, .val (.long nn), .second, iv x0, iv x1, .val (.long sc), .second, .val (.int 1), rv cs, rv st, rv al, rv lg2, .val (.int 1)] []) (fun _ k => XS.icmpNo X110.here hx rfl (hb hby at_174) rfl (teq hc111).2 k) ?_
    refine own_S (mkF m 178 #[iv sl, .val (.long nn), .second, iv x0, iv x1, .val (.long sc), .second, .val (.int 1), rv cs, rv st, rv al, rv lg2, .val (.int 1)] [(.int 1)]) (fun _ k => XS.iconst X110.here hx rfl (hb hby at_177) k) ?_
    refine own_S (mkF m 182 #[iv sl, .val (.long nn), .second, iv x0, iv x1, .val (.long sc), .second, .val (.int 1), rv cs, rv st, rv al, rv lg2, .val (.int 1)] [(.int 1)]) (fun _ k => XS.goto X110.here hx rfl (pc0 := 178) (pc' := 182) rfl (hb hby at_178) (by decide) (by decide) k) ?_
    exact own_retN X110 hx hlk (t := .boolean) hret (by simp) (hb hby at_182) (by rw [e110]; exact ⟨rfl, N110, trivial⟩) (by decide) (by decide)
  · -- kk = 2
    subst q86_2
    have hc112 : ¬ ((2 : Int32) = (0 : Int32)) := by decide
    refine own_S (mkF m 74 #[iv sl, .val (.long nn), .second, iv x0, iv x1, .val (.long sc), .second, .val (.int 2), rv cs, rv st, rv al, .unset, .unset] []) (fun _ k => XS.ifYes X74.here hx rfl (pc0 := 65) (pc' := 74) rfl (hb hby at_65) rfl ((if0 _ _).trans (feq hc112).2) (by decide) (by decide) k) ?_
    refine own_S (mkF m 76 #[iv sl, .val (.long nn), .second, iv x0, iv x1, .val (.long sc), .second, .val (.int 2), rv cs, rv st, rv al, .unset, .unset] [(.int 2)]) (fun _ k => XS.iload X74.here hx rfl (hb hby at_74) rfl k) ?_
    refine own_S (mkF m 77 #[iv sl, .val (.long nn), .second, iv x0, iv x1, .val (.long sc), .second, .val (.int 2), rv cs, rv st, rv al, .unset, .unset] [(.int 1), (.int 2)]) (fun _ k => XS.iconst X74.here hx rfl (hb hby at_76) k) ?_
    have hc113 : ¬ ((2 : Int32) = (1 : Int32)) := by decide
    refine own_S (mkF m 89 #[iv sl, .val (.long nn), .second, iv x0, iv x1, .val (.long sc), .second, .val (.int 2), rv cs, rv st, rv al, .unset, .unset] []) (fun _ k => XS.icmpYes X74.here hx rfl (pc0 := 77) (pc' := 89) rfl (hb hby at_77) rfl (feq hc113).2 (by decide) (by decide) k) ?_
    refine own_S (mkF m 91 #[iv sl, .val (.long nn), .second, iv x0, iv x1, .val (.long sc), .second, .val (.int 2), rv cs, rv st, rv al, .unset, .unset] [(.int 2)]) (fun _ k => XS.iload X74.here hx rfl (hb hby at_89) rfl k) ?_
    refine own_S (mkF m 92 #[iv sl, .val (.long nn), .second, iv x0, iv x1, .val (.long sc), .second, .val (.int 2), rv cs, rv st, rv al, .unset, .unset] [(.int 2), (.int 2)]) (fun _ k => XS.iconst X74.here hx rfl (hb hby at_91) k) ?_
    have hc114 : (2 : Int32) = (2 : Int32) := by decide
    refine own_S (mkF m 95 #[iv sl, .val (.long nn), .second, iv x0, iv x1, .val (.long sc), .second, .val (.int 2), rv cs, rv st, rv al, .unset, .unset] []) (fun _ k => XS.icmpNo X74.here hx rfl (hb hby at_92) rfl (teq hc114).2 k) ?_
    obtain ⟨T115, h115, X115, e115, E115, A115, D115, -, st115⟩ := newO X74 hx hZ hown (own_g hw (i := 138) rfl) (own_g hw (i := 139) rfl) (own_g hw (i := 140) rfl) rfl (g := (mkF m 95 #[iv sl, .val (.long nn), .second, iv x0, iv x1, .val (.long sc), .second, .val (.int 2), rv cs, rv st, rv al, .unset, .unset] [])) rfl (hb hby at_95) (by decide) (by decide)
    obtain ⟨bg, g115⟩ : ∃ z, z = T74.heap.size := ⟨_, rfl⟩
    rw [← g115] at A115 D115 st115
    have n116 : ea ≠ bg := Nat.ne_of_lt (Nat.lt_of_lt_of_eq F79.lt g115.symm)
    have n117 : cs ≠ bg := Nat.ne_of_lt (Nat.lt_of_lt_of_eq F80.lt g115.symm)
    have n118 : st ≠ bg := Nat.ne_of_lt (Nat.lt_of_lt_of_eq F81.lt g115.symm)
    have n119 : lg ≠ bg := Nat.ne_of_lt (Nat.lt_of_lt_of_eq F82.lt g115.symm)
    have n120 : al ≠ bg := Nat.ne_of_lt (Nat.lt_of_lt_of_eq F75.lt g115.symm)
    have ge_bg : n0 ≤ bg := Nat.le_trans Z74 (Nat.le_of_eq g115.symm)
    have F121 := F76.ext E115
    have F122 := F77.ext E115
    have F123 := F78.ext E115
    have F124 := F79.ext E115
    have F125 := F80.ext E115
    have F126 := F81.ext E115
    have F127 := F82.ext E115
    have F128 := F83.ext E115
    have F129 := F75.ext E115
    have Z115 : n0 ≤ h115.size := Nat.le_trans Z74 E115.1
    have F130 : Fld Z h115 bg "com/example/lockstep/lockstep/history/Edn$BigInt" "digits" "Ljava/lang/String;" .null := D115 (Or.inr (own_g hw (i := 146) rfl)) (ty := (.object "java/lang/String")) (by decide)
    refine own_S (mkF m 98 #[iv sl, .val (.long nn), .second, iv x0, iv x1, .val (.long sc), .second, .val (.int 2), rv cs, rv st, rv al, .unset, .unset] [(.ref bg)]) st115 ?_
    refine own_S (mkF m 99 #[iv sl, .val (.long nn), .second, iv x0, iv x1, .val (.long sc), .second, .val (.int 2), rv cs, rv st, rv al, .unset, .unset] [(.ref bg), (.ref bg)]) (fun _ k => XS.dup X115.here hx rfl (hb hby at_98) rfl rfl k) ?_
    refine own_S (mkF m 101 #[iv sl, .val (.long nn), .second, iv x0, iv x1, .val (.long sc), .second, .val (.int 2), rv cs, rv st, rv al, .unset, .unset] [(.ref st), (.ref bg), (.ref bg)]) (fun _ k => XS.aload X115.here hx rfl (hb hby at_99) rfl rfl k) ?_
    obtain ⟨_, _, ⟨T131, L131, k131, n131⟩, -, X131, ⟨Lc131, hQ131, l131, y131, z131⟩, st131⟩ := X115.specialBack hx (y := own_y17) rfl hown (mvT hZ (own_g hw (i := 141) rfl)) (mvT hZ (own_g hw (i := 142) rfl)) (mvT hZ (own_g hw (i := 143) rfl)) (by decide) (backOf (W := 1) (own_rmbi l Z a0 hw [] (bg) (st) (.null) h115 n0 Z115 A115 F130 ge_bg) hZ (own_g hw (i := 143) rfl) (own_g hw (i := 140) rfl) (by decide) (by decide)) (g := (mkF m 101 #[iv sl, .val (.long nn), .second, iv x0, iv x1, .val (.long sc), .second, .val (.int 2), rv cs, rv st, rv al, .unset, .unset] [(.ref st), (.ref bg), (.ref bg)])) rfl (by rw [hml]; rfl) (Steps.refl _) (a := bg) (argsL := [(.ref st)]) (rest := [(.ref bg)]) (lenOf own_pd__Ljava_lang_String__V rfl) rfl (by show 2 * 0 + _ ≤ _; exact Nat.le_of_eq rfl) (hb hby at_101) (fun _ _ => ⟨rfl, e115, (by decide : 7 + 0 ≤ _), (by decide : 23 + 0 ≤ _)⟩)
    dsimp only [Pt.U, Pt.locs, Pt.cells, Pt.slots] at X131 l131 y131 z131 st131 hQ131
    subst l131 y131 z131
    obtain ⟨rfl, N131q, K131q, F132⟩ := hQ131
    have N131 := Fr.app N74 N131q
    refine own_S (mkF m 104 #[iv sl, .val (.long nn), .second, iv x0, iv x1, .val (.long sc), .second, .val (.int 2), rv cs, rv st, rv al, .unset, .unset] [(.ref bg)]) (fun _ k => st131.trans k) ?_
    have F133 := F121.keep K131q (allS ge_bg all0)
    have F134 := Sta_keep (n0 := 0) F122 K131q ((own_allS (old_plain F130) (fun _ q => nomatch q)))
    have F135 := Sta_keep (n0 := 0) F123 K131q ((own_allS (old_plain F130) (fun _ q => nomatch q)))
    have F136 := F124.keep K131q (ninS n116 nin0)
    have F137 := F125.keep K131q (ninS n117 nin0)
    have F138 := F126.keep K131q
    have F139 := F127.keep K131q
    have F140 := F128.keep K131q (ninS n119 nin0)
    have F141 := F129.keep K131q
    have Z131 : n0 ≤ T131.heap.size := Nat.le_trans Z115 K131q.1
    refine own_S (mkF m 106 #[iv sl, .val (.long nn), .second, iv x0, iv x1, .val (.long sc), .second, .val (.int 2), rv cs, rv st, rv al, rv bg, .unset] []) (fun _ k => XS.astore X131.here hx rfl (hb hby at_104) rfl rfl (l' := #[iv sl, .val (.long nn), .second, iv x0, iv x1, .val (.long sc), .second, .val (.int 2), rv cs, rv st, rv al, rv bg, .unset]) rfl k) ?_
    refine own_S (mkF m 148 #[iv sl, .val (.long nn), .second, iv x0, iv x1, .val (.long sc), .second, .val (.int 2), rv cs, rv st, rv al, rv bg, .unset] []) (fun _ k => XS.goto X131.here hx rfl (pc0 := 106) (pc' := 148) rfl (hb hby at_106) (by decide) (by decide) k) ?_
    refine own_S (mkF m 150 #[iv sl, .val (.long nn), .second, iv x0, iv x1, .val (.long sc), .second, .val (.int 2), rv cs, rv st, rv al, rv bg, .unset] [(.int 2)]) (fun _ k => XS.iload X131.here hx rfl (hb hby at_148) rfl k) ?_
    refine own_S (mkF m 151 #[iv sl, .val (.long nn), .second, iv x0, iv x1, .val (.long sc), .second, .val (.int 2), rv cs, rv st, rv al, rv bg, .unset] [(.int 1), (.int 2)]) (fun _ k => XS.iconst X131.here hx rfl (hb hby at_150) k) ?_
    have hc142 : ¬ ((2 : Int32) = (1 : Int32)) := by decide
    refine own_S (mkF m 154 #[iv sl, .val (.long nn), .second, iv x0, iv x1, .val (.long sc), .second, .val (.int 2), rv cs, rv st, rv al, rv bg, .unset] []) (fun _ k => XS.icmpNo X131.here hx rfl (hb hby at_151) rfl (feq hc142).1 k) ?_
    refine own_S (mkF m 156 #[iv sl, .val (.long nn), .second, iv x0, iv x1, .val (.long sc), .second, .val (.int 2), rv cs, rv st, rv al, rv bg, .unset] [(.int 2)]) (fun _ k => XS.iload X131.here hx rfl (hb hby at_154) rfl k) ?_
    refine own_S (mkF m 157 #[iv sl, .val (.long nn), .second, iv x0, iv x1, .val (.long sc), .second, .val (.int 2), rv cs, rv st, rv al, rv bg, .unset] [(.int 2), (.int 2)]) (fun _ k => XS.iconst X131.here hx rfl (hb hby at_156) k) ?_
    have hc143 : (2 : Int32) = (2 : Int32) := by decide
    refine own_S (mkF m 160 #[iv sl, .val (.long nn), .second, iv x0, iv x1, .val (.long sc), .second, .val (.int 2), rv cs, rv st, rv al, rv bg, .unset] []) (fun _ k => XS.icmpNo X131.here hx rfl (hb hby at_157) rfl (teq hc143).2 k) ?_
    refine own_S (mkF m 161 #[iv sl, .val (.long nn), .second, iv x0, iv x1, .val (.long sc), .second, .val (.int 2), rv cs, rv st, rv al, rv bg, .unset] [(.int 1)]) (fun _ k => XS.iconst X131.here hx rfl (hb hby at_160) k) ?_
    refine own_S (mkF m 165 #[iv sl, .val (.long nn), .second, iv x0, iv x1, .val (.long sc), .second, .val (.int 2), rv cs, rv st, rv al, rv bg, .unset] [(.int 1)]) (fun _ k => XS.goto X131.here hx rfl (pc0 := 161) (pc' := 165) rfl (hb hby at_161) (by decide) (by decide) k) ?_
    refine own_S (mkF m 167 #[iv sl, .val (.long nn), .second, iv x0, iv x1, .val (.long sc), .second, .val (.int 2), rv cs, rv st, rv al, rv bg, .val (.int 1)] []) (fun _ k => XS.istore X131.here hx rfl (hb hby at_165) rfl (l' := #[iv sl, .val (.long nn), .second, iv x0, iv x1, .val (.long sc), .second, .val (.int 2), rv cs, rv st, rv al, rv bg, .val (.int 1)]) rfl k) ?_
    refine own_S (mkF m 169 #[iv sl, .val (.long nn), .second, iv x0, iv x1, .val (.long sc), .second, .val (.int 2), rv cs, rv st, rv al, rv bg, .val (.int 1)] [(.ref bg)]) (fun _ k => XS.aload X131.here hx rfl (hb hby at_167) rfl rfl k) ?_
    obtain ⟨_, _, ⟨T144, L144, k144, n144⟩, -, X144, ⟨Lc144, hQ144, l144, y144, z144⟩, st144⟩ := Jvm.LawKit.callS X131 hx (y := own_y19) hown (mvT hZ (own_g hw (i := 94) rfl)) (mvT hZ (own_g hw (i := 95) rfl)) (mvT hZ (own_g hw (i := 96) rfl)) (mvT hZ (own_g hw (i := 97) rfl)) (by decide) (backOf (W := 0) (own_rmisB l Z a0 hw [] (bg) T131.heap n0 Z131 F132) hZ (own_g hw (i := 97) rfl) (own_g hw (i := 96) rfl) (by decide) (by decide)) (g := (mkF m 169 #[iv sl, .val (.long nn), .second, iv x0, iv x1, .val (.long sc), .second, .val (.int 2), rv cs, rv st, rv al, rv bg, .val (.int 1)] [(.ref bg)])) rfl (by rw [hml]; rfl) (argsL := [(.ref bg)]) (rest := []) (lenOf own_pd__Ljava_lang_Object__Z rfl) rfl (by show 2 * 0 + _ ≤ _; exact Nat.le_of_eq rfl) (hb hby at_169) (fun _ _ => ⟨rfl, rfl, (by decide : 7 + 0 ≤ _), (by decide : 23 + 0 ≤ _)⟩)
    dsimp only [Pt.U, Pt.locs, Pt.cells, Pt.slots] at X144 l144 y144 z144 st144 hQ144
    subst l144 y144 z144
    obtain ⟨rfl, N144q, e144⟩ := hQ144
    have N144 := Fr.app N131 N144q
    refine own_S (mkF m 172 #[iv sl, .val (.long nn), .second, iv x0, iv x1, .val (.long sc), .second, .val (.int 2), rv cs, rv st, rv al, rv bg, .val (.int 1)] [(.int 1)]) (fun _ k => st144 _ k) ?_
    refine own_S (mkF m 174 #[iv sl, .val (.long nn), .second, iv x0, iv x1, .val (.long sc), .second, .val (.int 2), rv cs, rv st, rv al, rv bg, .val (.int 1)] [(.int 1), (.int 1)]) (fun _ k => XS.iload X144.here hx rfl (hb hby at_172) rfl k) ?_
    have hc145 : (1 : Int32) = (1 : Int32) := by decide
    refine own_S (mkF m 177 #[iv sl, .val (.long nn), .second, iv x0, iv x1, .val (.long sc), .second, .val (.int 2), rv cs, rv st, rv al, rv bg, .val (.int 1)] []) (fun _ k => XS.icmpNo X144.here hx rfl (hb hby at_174) rfl (teq hc145).2 k) ?_
    refine own_S (mkF m 178 #[iv sl, .val (.long nn), .second, iv x0, iv x1, .val (.long sc), .second, .val (.int 2), rv cs, rv st, rv al, rv bg, .val (.int 1)] [(.int 1)]) (fun _ k => XS.iconst X144.here hx rfl (hb hby at_177) k) ?_
    refine own_S (mkF m 182 #[iv sl, .val (.long nn), .second, iv x0, iv x1, .val (.long sc), .second, .val (.int 2), rv cs, rv st, rv al, rv bg, .val (.int 1)] [(.int 1)]) (fun _ k => XS.goto X144.here hx rfl (pc0 := 178) (pc' := 182) rfl (hb hby at_178) (by decide) (by decide) k) ?_
    exact own_retN X144 hx hlk (t := .boolean) hret (by simp) (hb hby at_182) (by rw [e144]; exact ⟨rfl, N144, trivial⟩) (by decide) (by decide)
  · -- kk = 3
    subst q87_3
    have hc146 : ¬ ((3 : Int32) = (0 : Int32)) := by decide
    refine own_S (mkF m 74 #[iv sl, .val (.long nn), .second, iv x0, iv x1, .val (.long sc), .second, .val (.int 3), rv cs, rv st, rv al, .unset, .unset] []) (fun _ k => XS.ifYes X74.here hx rfl (pc0 := 65) (pc' := 74) rfl (hb hby at_65) rfl ((if0 _ _).trans (feq hc146).2) (by decide) (by decide) k) ?_
    refine own_S (mkF m 76 #[iv sl, .val (.long nn), .second, iv x0, iv x1, .val (.long sc), .second, .val (.int 3), rv cs, rv st, rv al, .unset, .unset] [(.int 3)]) (fun _ k => XS.iload X74.here hx rfl (hb hby at_74) rfl k) ?_
    refine own_S (mkF m 77 #[iv sl, .val (.long nn), .second, iv x0, iv x1, .val (.long sc), .second, .val (.int 3), rv cs, rv st, rv al, .unset, .unset] [(.int 1), (.int 3)]) (fun _ k => XS.iconst X74.here hx rfl (hb hby at_76) k) ?_
    have hc147 : ¬ ((3 : Int32) = (1 : Int32)) := by decide
    refine own_S (mkF m 89 #[iv sl, .val (.long nn), .second, iv x0, iv x1, .val (.long sc), .second, .val (.int 3), rv cs, rv st, rv al, .unset, .unset] []) (fun _ k => XS.icmpYes X74.here hx rfl (pc0 := 77) (pc' := 89) rfl (hb hby at_77) rfl (feq hc147).2 (by decide) (by decide) k) ?_
    refine own_S (mkF m 91 #[iv sl, .val (.long nn), .second, iv x0, iv x1, .val (.long sc), .second, .val (.int 3), rv cs, rv st, rv al, .unset, .unset] [(.int 3)]) (fun _ k => XS.iload X74.here hx rfl (hb hby at_89) rfl k) ?_
    refine own_S (mkF m 92 #[iv sl, .val (.long nn), .second, iv x0, iv x1, .val (.long sc), .second, .val (.int 3), rv cs, rv st, rv al, .unset, .unset] [(.int 2), (.int 3)]) (fun _ k => XS.iconst X74.here hx rfl (hb hby at_91) k) ?_
    have hc148 : ¬ ((3 : Int32) = (2 : Int32)) := by decide
    refine own_S (mkF m 109 #[iv sl, .val (.long nn), .second, iv x0, iv x1, .val (.long sc), .second, .val (.int 3), rv cs, rv st, rv al, .unset, .unset] []) (fun _ k => XS.icmpYes X74.here hx rfl (pc0 := 92) (pc' := 109) rfl (hb hby at_92) rfl (feq hc148).2 (by decide) (by decide) k) ?_
    refine own_S (mkF m 111 #[iv sl, .val (.long nn), .second, iv x0, iv x1, .val (.long sc), .second, .val (.int 3), rv cs, rv st, rv al, .unset, .unset] [(.int 3)]) (fun _ k => XS.iload X74.here hx rfl (hb hby at_109) rfl k) ?_
    refine own_S (mkF m 112 #[iv sl, .val (.long nn), .second, iv x0, iv x1, .val (.long sc), .second, .val (.int 3), rv cs, rv st, rv al, .unset, .unset] [(.int 3), (.int 3)]) (fun _ k => XS.iconst X74.here hx rfl (hb hby at_111) k) ?_
    have hc149 : (3 : Int32) = (3 : Int32) := by decide
    refine own_S (mkF m 115 #[iv sl, .val (.long nn), .second, iv x0, iv x1, .val (.long sc), .second, .val (.int 3), rv cs, rv st, rv al, .unset, .unset] []) (fun _ k => XS.icmpNo X74.here hx rfl (hb hby at_112) rfl (teq hc149).2 k) ?_
    obtain ⟨T150, h150, X150, e150, E150, A150, D150, -, st150⟩ := newO X74 hx hZ hown (own_g hw (i := 120) rfl) (own_g hw (i := 121) rfl) (own_g hw (i := 122) rfl) rfl (g := (mkF m 115 #[iv sl, .val (.long nn), .second, iv x0, iv x1, .val (.long sc), .second, .val (.int 3), rv cs, rv st, rv al, .unset, .unset] [])) rfl (hb hby at_115) (by decide) (by decide)
    obtain ⟨dc, g150⟩ : ∃ z, z = T74.heap.size := ⟨_, rfl⟩
    rw [← g150] at A150 D150 st150
    have n151 : ea ≠ dc := Nat.ne_of_lt (Nat.lt_of_lt_of_eq F79.lt g150.symm)
    have n152 : cs ≠ dc := Nat.ne_of_lt (Nat.lt_of_lt_of_eq F80.lt g150.symm)
    have n153 : st ≠ dc := Nat.ne_of_lt (Nat.lt_of_lt_of_eq F81.lt g150.symm)
    have n154 : lg ≠ dc := Nat.ne_of_lt (Nat.lt_of_lt_of_eq F82.lt g150.symm)
    have n155 : al ≠ dc := Nat.ne_of_lt (Nat.lt_of_lt_of_eq F75.lt g150.symm)
    have ge_dc : n0 ≤ dc := Nat.le_trans Z74 (Nat.le_of_eq g150.symm)
    have F156 := F76.ext E150
    have F157 := F77.ext E150
    have F158 := F78.ext E150
    have F159 := F79.ext E150
    have F160 := F80.ext E150
    have F161 := F81.ext E150
    have F162 := F82.ext E150
    have F163 := F83.ext E150
    have F164 := F75.ext E150
    have Z150 : n0 ≤ h150.size := Nat.le_trans Z74 E150.1
    have F165 : Fld Z h150 dc "com/example/lockstep/lockstep/history/Edn$Decimal" "unscaled" "Ljava/lang/String;" .null := D150 (Or.inr (own_g hw (i := 133) rfl)) (ty := (.object "java/lang/String")) (by decide)
    have F166 : Fld Z h150 dc "com/example/lockstep/lockstep/history/Edn$Decimal" "scale" "J" (.long (0 : Int64)) := D150 (Or.inr (own_g hw (i := 135) rfl)) (ty := .long) (by decide)
    refine own_S (mkF m 118 #[iv sl, .val (.long nn), .second, iv x0, iv x1, .val (.long sc), .second, .val (.int 3), rv cs, rv st, rv al, .unset, .unset] [(.ref dc)]) st150 ?_
    refine own_S (mkF m 119 #[iv sl, .val (.long nn), .second, iv x0, iv x1, .val (.long sc), .second, .val (.int 3), rv cs, rv st, rv al, .unset, .unset] [(.ref dc), (.ref dc)]) (fun _ k => XS.dup X150.here hx rfl (hb hby at_118) rfl rfl k) ?_
    refine own_S (mkF m 121 #[iv sl, .val (.long nn), .second, iv x0, iv x1, .val (.long sc), .second, .val (.int 3), rv cs, rv st, rv al, .unset, .unset] [(.ref st), (.ref dc), (.ref dc)]) (fun _ k => XS.aload X150.here hx rfl (hb hby at_119) rfl rfl k) ?_
    refine own_S (mkF m 123 #[iv sl, .val (.long nn), .second, iv x0, iv x1, .val (.long sc), .second, .val (.int 3), rv cs, rv st, rv al, .unset, .unset] [(.long sc), (.ref st), (.ref dc), (.ref dc)]) (fun _ k => XS.lload X150.here hx rfl (hb hby at_121) rfl k) ?_
    obtain ⟨_, _, ⟨T167, L167, k167, n167⟩, -, X167, ⟨Lc167, hQ167, l167, y167, z167⟩, st167⟩ := X150.specialBack hx (y := own_y18) rfl hown (mvT hZ (own_g hw (i := 123) rfl)) (mvT hZ (own_g hw (i := 124) rfl)) (mvT hZ (own_g hw (i := 125) rfl)) (by decide) (backOf (W := 1) (own_rmde l Z a0 hw [] (dc) (st) (sc) (.null) ((.long (0 : Int64))) h150 n0 Z150 A150 F165 F166 ge_dc) hZ (own_g hw (i := 125) rfl) (own_g hw (i := 122) rfl) (by decide) (by decide)) (g := (mkF m 123 #[iv sl, .val (.long nn), .second, iv x0, iv x1, .val (.long sc), .second, .val (.int 3), rv cs, rv st, rv al, .unset, .unset] [(.long sc), (.ref st), (.ref dc), (.ref dc)])) rfl (by rw [hml]; rfl) (Steps.refl _) (a := dc) (argsL := [(.ref st), (.long sc)]) (rest := [(.ref dc)]) (lenOf own_pd__Ljava_lang_String_J_V rfl) rfl (by show 2 * 0 + _ ≤ _; exact Nat.le_of_eq rfl) (hb hby at_123) (fun _ _ => ⟨rfl, e150, (by decide : 7 + 0 ≤ _), (by decide : 24 + 0 ≤ _)⟩)
    dsimp only [Pt.U, Pt.locs, Pt.cells, Pt.slots] at X167 l167 y167 z167 st167 hQ167
    subst l167 y167 z167
    obtain ⟨rfl, N167q, K167q, F168⟩ := hQ167
    have N167 := Fr.app N74 N167q
    refine own_S (mkF m 126 #[iv sl, .val (.long nn), .second, iv x0, iv x1, .val (.long sc), .second, .val (.int 3), rv cs, rv st, rv al, .unset, .unset] [(.ref dc)]) (fun _ k => st167.trans k) ?_
    have F169 := F156.keep K167q (allS ge_dc all0)
    have F170 := Sta_keep (n0 := 0) F157 K167q ((own_allS (old_plain F166) (fun _ q => nomatch q)))
    have F171 := Sta_keep (n0 := 0) F158 K167q ((own_allS (old_plain F166) (fun _ q => nomatch q)))
    have F172 := F159.keep K167q (ninS n151 nin0)
    have F173 := F160.keep K167q (ninS n152 nin0)
    have F174 := F161.keep K167q
    have F175 := F162.keep K167q
    have F176 := F163.keep K167q (ninS n154 nin0)
    have F177 := F164.keep K167q
    have Z167 : n0 ≤ T167.heap.size := Nat.le_trans Z150 K167q.1
    refine own_S (mkF m 128 #[iv sl, .val (.long nn), .second, iv x0, iv x1, .val (.long sc), .second, .val (.int 3), rv cs, rv st, rv al, rv dc, .unset] []) (fun _ k => XS.astore X167.here hx rfl (hb hby at_126) rfl rfl (l' := #[iv sl, .val (.long nn), .second, iv x0, iv x1, .val (.long sc), .second, .val (.int 3), rv cs, rv st, rv al, rv dc, .unset]) rfl k) ?_
    refine own_S (mkF m 148 #[iv sl, .val (.long nn), .second, iv x0, iv x1, .val (.long sc), .second, .val (.int 3), rv cs, rv st, rv al, rv dc, .unset] []) (fun _ k => XS.goto X167.here hx rfl (pc0 := 128) (pc' := 148) rfl (hb hby at_128) (by decide) (by decide) k) ?_
    refine own_S (mkF m 150 #[iv sl, .val (.long nn), .second, iv x0, iv x1, .val (.long sc), .second, .val (.int 3), rv cs, rv st, rv al, rv dc, .unset] [(.int 3)]) (fun _ k => XS.iload X167.here hx rfl (hb hby at_148) rfl k) ?_
    refine own_S (mkF m 151 #[iv sl, .val (.long nn), .second, iv x0, iv x1, .val (.long sc), .second, .val (.int 3), rv cs, rv st, rv al, rv dc, .unset] [(.int 1), (.int 3)]) (fun _ k => XS.iconst X167.here hx rfl (hb hby at_150) k) ?_
    have hc178 : ¬ ((3 : Int32) = (1 : Int32)) := by decide
    refine own_S (mkF m 154 #[iv sl, .val (.long nn), .second, iv x0, iv x1, .val (.long sc), .second, .val (.int 3), rv cs, rv st, rv al, rv dc, .unset] []) (fun _ k => XS.icmpNo X167.here hx rfl (hb hby at_151) rfl (feq hc178).1 k) ?_
    refine own_S (mkF m 156 #[iv sl, .val (.long nn), .second, iv x0, iv x1, .val (.long sc), .second, .val (.int 3), rv cs, rv st, rv al, rv dc, .unset] [(.int 3)]) (fun _ k => XS.iload X167.here hx rfl (hb hby at_154) rfl k) ?_
    refine own_S (mkF m 157 #[iv sl, .val (.long nn), .second, iv x0, iv x1, .val (.long sc), .second, .val (.int 3), rv cs, rv st, rv al, rv dc, .unset] [(.int 2), (.int 3)]) (fun _ k => XS.iconst X167.here hx rfl (hb hby at_156) k) ?_
    have hc179 : ¬ ((3 : Int32) = (2 : Int32)) := by decide
    refine own_S (mkF m 164 #[iv sl, .val (.long nn), .second, iv x0, iv x1, .val (.long sc), .second, .val (.int 3), rv cs, rv st, rv al, rv dc, .unset] []) (fun _ k => XS.icmpYes X167.here hx rfl (pc0 := 157) (pc' := 164) rfl (hb hby at_157) rfl (feq hc179).2 (by decide) (by decide) k) ?_
    refine own_S (mkF m 165 #[iv sl, .val (.long nn), .second, iv x0, iv x1, .val (.long sc), .second, .val (.int 3), rv cs, rv st, rv al, rv dc, .unset] [(.int 0)]) (fun _ k => XS.iconst X167.here hx rfl (hb hby at_164) k) ?_
    refine own_S (mkF m 167 #[iv sl, .val (.long nn), .second, iv x0, iv x1, .val (.long sc), .second, .val (.int 3), rv cs, rv st, rv al, rv dc, .val (.int 0)] []) (fun _ k => XS.istore X167.here hx rfl (hb hby at_165) rfl (l' := #[iv sl, .val (.long nn), .second, iv x0, iv x1, .val (.long sc), .second, .val (.int 3), rv cs, rv st, rv al, rv dc, .val (.int 0)]) rfl k) ?_
    refine own_S (mkF m 169 #[iv sl, .val (.long nn), .second, iv x0, iv x1, .val (.long sc), .second, .val (.int 3), rv cs, rv st, rv al, rv dc, .val (.int 0)] [(.ref dc)]) (fun _ k => XS.aload X167.here hx rfl (hb hby at_167) rfl rfl k) ?_
    obtain ⟨_, _, ⟨T180, L180, k180, n180⟩, -, X180, ⟨Lc180, hQ180, l180, y180, z180⟩, st180⟩ := Jvm.LawKit.callS X167 hx (y := own_y19) hown (mvT hZ (own_g hw (i := 94) rfl)) (mvT hZ (own_g hw (i := 95) rfl)) (mvT hZ (own_g hw (i := 96) rfl)) (mvT hZ (own_g hw (i := 97) rfl)) (by decide) (backOf (W := 0) (own_rmisD l Z a0 hw [] (dc) T167.heap n0 Z167 F168) hZ (own_g hw (i := 97) rfl) (own_g hw (i := 96) rfl) (by decide) (by decide)) (g := (mkF m 169 #[iv sl, .val (.long nn), .second, iv x0, iv x1, .val (.long sc), .second, .val (.int 3), rv cs, rv st, rv al, rv dc, .val (.int 0)] [(.ref dc)])) rfl (by rw [hml]; rfl) (argsL := [(.ref dc)]) (rest := []) (lenOf own_pd__Ljava_lang_Object__Z rfl) rfl (by show 2 * 0 + _ ≤ _; exact Nat.le_of_eq rfl) (hb hby at_169) (fun _ _ => ⟨rfl, rfl, (by decide : 7 + 0 ≤ _), (by decide : 24 + 0 ≤ _)⟩)
    dsimp only [Pt.U, Pt.locs, Pt.cells, Pt.slots] at X180 l180 y180 z180 st180 hQ180
    subst l180 y180 z180
    obtain ⟨rfl, N180q, e180⟩ := hQ180
    have N180 := Fr.app N167 N180q
    refine own_S (mkF m 172 #[iv sl, .val (.long nn), .second, iv x0, iv x1, .val (.long sc), .second, .val (.int 3), rv cs, rv st, rv al, rv dc, .val (.int 0)] [(.int 0)]) (fun _ k => st180 _ k) ?_
    refine own_S (mkF m 174 #[iv sl, .val (.long nn), .second, iv x0, iv x1, .val (.long sc), .second, .val (.int 3), rv cs, rv st, rv al, rv dc, .val (.int 0)] [(.int 0), (.int 0)]) (fun _ k => XS.iload X180.here hx rfl (hb hby at_172) rfl k) ?_
    have hc181 : (0 : Int32) = (0 : Int32) := by decide
    refine own_S (mkF m 177 #[iv sl, .val (.long nn), .second, iv x0, iv x1, .val (.long sc), .second, .val (.int 3), rv cs, rv st, rv al, rv dc, .val (.int 0)] []) (fun _ k => XS.icmpNo X180.here hx rfl (hb hby at_174) rfl (teq hc181).2 k) ?_
    refine own_S (mkF m 178 #[iv sl, .val (.long nn), .second, iv x0, iv x1, .val (.long sc), .second, .val (.int 3), rv cs, rv st, rv al, rv dc, .val (.int 0)] [(.int 1)]) (fun _ k => XS.iconst X180.here hx rfl (hb hby at_177) k) ?_
    refine own_S (mkF m 182 #[iv sl, .val (.long nn), .second, iv x0, iv x1, .val (.long sc), .second, .val (.int 3), rv cs, rv st, rv al, rv dc, .val (.int 0)] [(.int 1)]) (fun _ k => XS.goto X180.here hx rfl (pc0 := 178) (pc' := 182) rfl (hb hby at_178) (by decide) (by decide) k) ?_
    exact own_retN X180 hx hlk (t := .boolean) hret (by simp) (hb hby at_182) (by rw [e180]; exact ⟨rfl, N180, trivial⟩) (by decide) (by decide)
  · -- kk = 4
    subst q88_4
    have hc182 : ¬ ((4 : Int32) = (0 : Int32)) := by decide
    refine own_S (mkF m 74 #[iv sl, .val (.long nn), .second, iv x0, iv x1, .val (.long sc), .second, .val (.int 4), rv cs, rv st, rv al, .unset, .unset] []) (fun _ k => XS.ifYes X74.here hx rfl (pc0 := 65) (pc' := 74) rfl (hb hby at_65) rfl ((if0 _ _).trans (feq hc182).2) (by decide) (by decide) k) ?_
    refine own_S (mkF m 76 #[iv sl, .val (.long nn), .second, iv x0, iv x1, .val (.long sc), .second, .val (.int 4), rv cs, rv st, rv al, .unset, .unset] [(.int 4)]) (fun _ k => XS.iload X74.here hx rfl (hb hby at_74) rfl k) ?_
    refine own_S (mkF m 77 #[iv sl, .val (.long nn), .second, iv x0, iv x1, .val (.long sc), .second, .val (.int 4), rv cs, rv st, rv al, .unset, .unset] [(.int 1), (.int 4)]) (fun _ k => XS.iconst X74.here hx rfl (hb hby at_76) k) ?_
    have hc183 : ¬ ((4 : Int32) = (1 : Int32)) := by decide
    refine own_S (mkF m 89 #[iv sl, .val (.long nn), .second, iv x0, iv x1, .val (.long sc), .second, .val (.int 4), rv cs, rv st, rv al, .unset, .unset] []) (fun _ k => XS.icmpYes X74.here hx rfl (pc0 := 77) (pc' := 89) rfl (hb hby at_77) rfl (feq hc183).2 (by decide) (by decide) k) ?_
    refine own_S (mkF m 91 #[iv sl, .val (.long nn), .second, iv x0, iv x1, .val (.long sc), .second, .val (.int 4), rv cs, rv st, rv al, .unset, .unset] [(.int 4)]) (fun _ k => XS.iload X74.here hx rfl (hb hby at_89) rfl k) ?_
    refine own_S (mkF m 92 #[iv sl, .val (.long nn), .second, iv x0, iv x1, .val (.long sc), .second, .val (.int 4), rv cs, rv st, rv al, .unset, .unset] [(.int 2), (.int 4)]) (fun _ k => XS.iconst X74.here hx rfl (hb hby at_91) k) ?_
    have hc184 : ¬ ((4 : Int32) = (2 : Int32)) := by decide
    refine own_S (mkF m 109 #[iv sl, .val (.long nn), .second, iv x0, iv x1, .val (.long sc), .second, .val (.int 4), rv cs, rv st, rv al, .unset, .unset] []) (fun _ k => XS.icmpYes X74.here hx rfl (pc0 := 92) (pc' := 109) rfl (hb hby at_92) rfl (feq hc184).2 (by decide) (by decide) k) ?_
    refine own_S (mkF m 111 #[iv sl, .val (.long nn), .second, iv x0, iv x1, .val (.long sc), .second, .val (.int 4), rv cs, rv st, rv al, .unset, .unset] [(.int 4)]) (fun _ k => XS.iload X74.here hx rfl (hb hby at_109) rfl k) ?_
    refine own_S (mkF m 112 #[iv sl, .val (.long nn), .second, iv x0, iv x1, .val (.long sc), .second, .val (.int 4), rv cs, rv st, rv al, .unset, .unset] [(.int 3), (.int 4)]) (fun _ k => XS.iconst X74.here hx rfl (hb hby at_111) k) ?_
    have hc185 : ¬ ((4 : Int32) = (3 : Int32)) := by decide
    refine own_S (mkF m 131 #[iv sl, .val (.long nn), .second, iv x0, iv x1, .val (.long sc), .second, .val (.int 4), rv cs, rv st, rv al, .unset, .unset] []) (fun _ k => XS.icmpYes X74.here hx rfl (pc0 := 112) (pc' := 131) rfl (hb hby at_112) rfl (feq hc185).2 (by decide) (by decide) k) ?_
    refine own_S (mkF m 133 #[iv sl, .val (.long nn), .second, iv x0, iv x1, .val (.long sc), .second, .val (.int 4), rv cs, rv st, rv al, .unset, .unset] [(.int 4)]) (fun _ k => XS.iload X74.here hx rfl (hb hby at_131) rfl k) ?_
    refine own_S (mkF m 134 #[iv sl, .val (.long nn), .second, iv x0, iv x1, .val (.long sc), .second, .val (.int 4), rv cs, rv st, rv al, .unset, .unset] [(.int 4), (.int 4)]) (fun _ k => XS.iconst X74.here hx rfl (hb hby at_133) k) ?_
    have hc186 : (4 : Int32) = (4 : Int32) := by decide
    refine own_S (mkF m 137 #[iv sl, .val (.long nn), .second, iv x0, iv x1, .val (.long sc), .second, .val (.int 4), rv cs, rv st, rv al, .unset, .unset] []) (fun _ k => XS.icmpNo X74.here hx rfl (hb hby at_134) rfl (teq hc186).2 k) ?_
    refine own_S (mkF m 139 #[iv sl, .val (.long nn), .second, iv x0, iv x1, .val (.long sc), .second, .val (.int 4), rv cs, rv st, rv al, .unset, .unset] [(.ref st)]) (fun _ k => XS.aload X74.here hx rfl (hb hby at_137) rfl rfl k) ?_
    refine own_S (mkF m 141 #[iv sl, .val (.long nn), .second, iv x0, iv x1, .val (.long sc), .second, .val (.int 4), rv cs, rv st, rv al, rv st, .unset] []) (fun _ k => XS.astore X74.here hx rfl (hb hby at_139) rfl rfl (l' := #[iv sl, .val (.long nn), .second, iv x0, iv x1, .val (.long sc), .second, .val (.int 4), rv cs, rv st, rv al, rv st, .unset]) rfl k) ?_
    refine own_S (mkF m 148 #[iv sl, .val (.long nn), .second, iv x0, iv x1, .val (.long sc), .second, .val (.int 4), rv cs, rv st, rv al, rv st, .unset] []) (fun _ k => XS.goto X74.here hx rfl (pc0 := 141) (pc' := 148) rfl (hb hby at_141) (by decide) (by decide) k) ?_
    refine own_S (mkF m 150 #[iv sl, .val (.long nn), .second, iv x0, iv x1, .val (.long sc), .second, .val (.int 4), rv cs, rv st, rv al, rv st, .unset] [(.int 4)]) (fun _ k => XS.iload X74.here hx rfl (hb hby at_148) rfl k) ?_
    refine own_S (mkF m 151 #[iv sl, .val (.long nn), .second, iv x0, iv x1, .val (.long sc), .second, .val (.int 4), rv cs, rv st, rv al, rv st, .unset] [(.int 1), (.int 4)]) (fun _ k => XS.iconst X74.here hx rfl (hb hby at_150) k) ?_
    have hc187 : ¬ ((4 : Int32) = (1 : Int32)) := by decide
    refine own_S (mkF m 154 #[iv sl, .val (.long nn), .second, iv x0, iv x1, .val (.long sc), .second, .val (.int 4), rv cs, rv st, rv al, rv st, .unset] []) (fun _ k => XS.icmpNo X74.here hx rfl (hb hby at_151) rfl (feq hc187).1 k) ?_
    refine own_S (mkF m 156 #[iv sl, .val (.long nn), .second, iv x0, iv x1, .val (.long sc), .second, .val (.int 4), rv cs, rv st, rv al, rv st, .unset] [(.int 4)]) (fun _ k => XS.iload X74.here hx rfl (hb hby at_154) rfl k) ?_
    refine own_S (mkF m 157 #[iv sl, .val (.long nn), .second, iv x0, iv x1, .val (.long sc), .second, .val (.int 4), rv cs, rv st, rv al, rv st, .unset] [(.int 2), (.int 4)]) (fun _ k => XS.iconst X74.here hx rfl (hb hby at_156) k) ?_
    have hc188 : ¬ ((4 : Int32) = (2 : Int32)) := by decide
    refine own_S (mkF m 164 #[iv sl, .val (.long nn), .second, iv x0, iv x1, .val (.long sc), .second, .val (.int 4), rv cs, rv st, rv al, rv st, .unset] []) (fun _ k => XS.icmpYes X74.here hx rfl (pc0 := 157) (pc' := 164) rfl (hb hby at_157) rfl (feq hc188).2 (by decide) (by decide) k) ?_
    refine own_S (mkF m 165 #[iv sl, .val (.long nn), .second, iv x0, iv x1, .val (.long sc), .second, .val (.int 4), rv cs, rv st, rv al, rv st, .unset] [(.int 0)]) (fun _ k => XS.iconst X74.here hx rfl (hb hby at_164) k) ?_
    refine own_S (mkF m 167 #[iv sl, .val (.long nn), .second, iv x0, iv x1, .val (.long sc), .second, .val (.int 4), rv cs, rv st, rv al, rv st, .val (.int 0)] []) (fun _ k => XS.istore X74.here hx rfl (hb hby at_165) rfl (l' := #[iv sl, .val (.long nn), .second, iv x0, iv x1, .val (.long sc), .second, .val (.int 4), rv cs, rv st, rv al, rv st, .val (.int 0)]) rfl k) ?_
    refine own_S (mkF m 169 #[iv sl, .val (.long nn), .second, iv x0, iv x1, .val (.long sc), .second, .val (.int 4), rv cs, rv st, rv al, rv st, .val (.int 0)] [(.ref st)]) (fun _ k => XS.aload X74.here hx rfl (hb hby at_167) rfl rfl k) ?_
    obtain ⟨_, _, ⟨T189, L189, k189, n189⟩, -, X189, ⟨Lc189, hQ189, l189, y189, z189⟩, st189⟩ := Jvm.LawKit.callS X74 hx (y := own_y19) hown (mvT hZ (own_g hw (i := 94) rfl)) (mvT hZ (own_g hw (i := 95) rfl)) (mvT hZ (own_g hw (i := 96) rfl)) (mvT hZ (own_g hw (i := 97) rfl)) (by decide) (backOf (W := 0) (own_rmisS l Z a0 hw [] (st) T74.heap n0 Z74 F81) hZ (own_g hw (i := 97) rfl) (own_g hw (i := 96) rfl) (by decide) (by decide)) (g := (mkF m 169 #[iv sl, .val (.long nn), .second, iv x0, iv x1, .val (.long sc), .second, .val (.int 4), rv cs, rv st, rv al, rv st, .val (.int 0)] [(.ref st)])) rfl (by rw [hml]; rfl) (argsL := [(.ref st)]) (rest := []) (lenOf own_pd__Ljava_lang_Object__Z rfl) rfl (by show 2 * 0 + _ ≤ _; exact Nat.le_of_eq rfl) (hb hby at_169) (fun _ _ => ⟨rfl, rfl, (by decide : 6 + 0 ≤ _), (by decide : 22 + 0 ≤ _)⟩)
    dsimp only [Pt.U, Pt.locs, Pt.cells, Pt.slots] at X189 l189 y189 z189 st189 hQ189
    subst l189 y189 z189
    obtain ⟨rfl, N189q, e189⟩ := hQ189
    have N189 := Fr.app N74 N189q
    refine own_S (mkF m 172 #[iv sl, .val (.long nn), .second, iv x0, iv x1, .val (.long sc), .second, .val (.int 4), rv cs, rv st, rv al, rv st, .val (.int 0)] [(.int 0)]) (fun _ k => st189 _ k) ?_
    refine own_S (mkF m 174 #[iv sl, .val (.long nn), .second, iv x0, iv x1, .val (.long sc), .second, .val (.int 4), rv cs, rv st, rv al, rv st, .val (.int 0)] [(.int 0), (.int 0)]) (fun _ k => XS.iload X189.here hx rfl (hb hby at_172) rfl k) ?_
    have hc190 : (0 : Int32) = (0 : Int32) := by decide
    refine own_S (mkF m 177 #[iv sl, .val (.long nn), .second, iv x0, iv x1, .val (.long sc), .second, .val (.int 4), rv cs, rv st, rv al, rv st, .val (.int 0)] []) (fun _ k => XS.icmpNo X189.here hx rfl (hb hby at_174) rfl (teq hc190).2 k) ?_
    refine own_S (mkF m 178 #[iv sl, .val (.long nn), .second, iv x0, iv x1, .val (.long sc), .second, .val (.int 4), rv cs, rv st, rv al, rv st, .val (.int 0)] [(.int 1)]) (fun _ k => XS.iconst X189.here hx rfl (hb hby at_177) k) ?_
    refine own_S (mkF m 182 #[iv sl, .val (.long nn), .second, iv x0, iv x1, .val (.long sc), .second, .val (.int 4), rv cs, rv st, rv al, rv st, .val (.int 0)] [(.int 1)]) (fun _ k => XS.goto X189.here hx rfl (pc0 := 178) (pc' := 182) rfl (hb hby at_178) (by decide) (by decide) k) ?_
    exact own_retN X189 hx hlk (t := .boolean) hret (by simp) (hb hby at_182) (by rw [e189]; exact ⟨rfl, N189, trivial⟩) (by decide) (by decide)
  · -- kk = 5
    subst q89_5
    have hc191 : ¬ ((5 : Int32) = (0 : Int32)) := by decide
    refine own_S (mkF m 74 #[iv sl, .val (.long nn), .second, iv x0, iv x1, .val (.long sc), .second, .val (.int 5), rv cs, rv st, rv al, .unset, .unset] []) (fun _ k => XS.ifYes X74.here hx rfl (pc0 := 65) (pc' := 74) rfl (hb hby at_65) rfl ((if0 _ _).trans (feq hc191).2) (by decide) (by decide) k) ?_
    refine own_S (mkF m 76 #[iv sl, .val (.long nn), .second, iv x0, iv x1, .val (.long sc), .second, .val (.int 5), rv cs, rv st, rv al, .unset, .unset] [(.int 5)]) (fun _ k => XS.iload X74.here hx rfl (hb hby at_74) rfl k) ?_
    refine own_S (mkF m 77 #[iv sl, .val (.long nn), .second, iv x0, iv x1, .val (.long sc), .second, .val (.int 5), rv cs, rv st, rv al, .unset, .unset] [(.int 1), (.int 5)]) (fun _ k => XS.iconst X74.here hx rfl (hb hby at_76) k) ?_
    have hc192 : ¬ ((5 : Int32) = (1 : Int32)) := by decide
    refine own_S (mkF m 89 #[iv sl, .val (.long nn), .second, iv x0, iv x1, .val (.long sc), .second, .val (.int 5), rv cs, rv st, rv al, .unset, .unset] []) (fun _ k => XS.icmpYes X74.here hx rfl (pc0 := 77) (pc' := 89) rfl (hb hby at_77) rfl (feq hc192).2 (by decide) (by decide) k) ?_
    refine own_S (mkF m 91 #[iv sl, .val (.long nn), .second, iv x0, iv x1, .val (.long sc), .second, .val (.int 5), rv cs, rv st, rv al, .unset, .unset] [(.int 5)]) (fun _ k => XS.iload X74.here hx rfl (hb hby at_89) rfl k) ?_
    refine own_S (mkF m 92 #[iv sl, .val (.long nn), .second, iv x0, iv x1, .val (.long sc), .second, .val (.int 5), rv cs, rv st, rv al, .unset, .unset] [(.int 2), (.int 5)]) (fun _ k => XS.iconst X74.here hx rfl (hb hby at_91) k) ?_
    have hc193 : ¬ ((5 : Int32) = (2 : Int32)) := by decide
    refine own_S (mkF m 109 #[iv sl, .val (.long nn), .second, iv x0, iv x1, .val (.long sc), .second, .val (.int 5), rv cs, rv st, rv al, .unset, .unset] []) (fun _ k => XS.icmpYes X74.here hx rfl (pc0 := 92) (pc' := 109) rfl (hb hby at_92) rfl (feq hc193).2 (by decide) (by decide) k) ?_
    refine own_S (mkF m 111 #[iv sl, .val (.long nn), .second, iv x0, iv x1, .val (.long sc), .second, .val (.int 5), rv cs, rv st, rv al, .unset, .unset] [(.int 5)]) (fun _ k => XS.iload X74.here hx rfl (hb hby at_109) rfl k) ?_
    refine own_S (mkF m 112 #[iv sl, .val (.long nn), .second, iv x0, iv x1, .val (.long sc), .second, .val (.int 5), rv cs, rv st, rv al, .unset, .unset] [(.int 3), (.int 5)]) (fun _ k => XS.iconst X74.here hx rfl (hb hby at_111) k) ?_
    have hc194 : ¬ ((5 : Int32) = (3 : Int32)) := by decide
    refine own_S (mkF m 131 #[iv sl, .val (.long nn), .second, iv x0, iv x1, .val (.long sc), .second, .val (.int 5), rv cs, rv st, rv al, .unset, .unset] []) (fun _ k => XS.icmpYes X74.here hx rfl (pc0 := 112) (pc' := 131) rfl (hb hby at_112) rfl (feq hc194).2 (by decide) (by decide) k) ?_
    refine own_S (mkF m 133 #[iv sl, .val (.long nn), .second, iv x0, iv x1, .val (.long sc), .second, .val (.int 5), rv cs, rv st, rv al, .unset, .unset] [(.int 5)]) (fun _ k => XS.iload X74.here hx rfl (hb hby at_131) rfl k) ?_
    refine own_S (mkF m 134 #[iv sl, .val (.long nn), .second, iv x0, iv x1, .val (.long sc), .second, .val (.int 5), rv cs, rv st, rv al, .unset, .unset] [(.int 4), (.int 5)]) (fun _ k => XS.iconst X74.here hx rfl (hb hby at_133) k) ?_
    have hc195 : ¬ ((5 : Int32) = (4 : Int32)) := by decide
    refine own_S (mkF m 144 #[iv sl, .val (.long nn), .second, iv x0, iv x1, .val (.long sc), .second, .val (.int 5), rv cs, rv st, rv al, .unset, .unset] []) (fun _ k => XS.icmpYes X74.here hx rfl (pc0 := 134) (pc' := 144) rfl (hb hby at_134) rfl (feq hc195).2 (by decide) (by decide) k) ?_
    refine own_S (mkF m 146 #[iv sl, .val (.long nn), .second, iv x0, iv x1, .val (.long sc), .second, .val (.int 5), rv cs, rv st, rv al, .unset, .unset] [(.ref al)]) (fun _ k => XS.aload X74.here hx rfl (hb hby at_144) rfl rfl k) ?_
    refine own_S (mkF m 148 #[iv sl, .val (.long nn), .second, iv x0, iv x1, .val (.long sc), .second, .val (.int 5), rv cs, rv st, rv al, rv al, .unset] []) (fun _ k => XS.astore X74.here hx rfl (hb hby at_146) rfl rfl (l' := #[iv sl, .val (.long nn), .second, iv x0, iv x1, .val (.long sc), .second, .val (.int 5), rv cs, rv st, rv al, rv al, .unset]) rfl k) ?_
    refine own_S (mkF m 150 #[iv sl, .val (.long nn), .second, iv x0, iv x1, .val (.long sc), .second, .val (.int 5), rv cs, rv st, rv al, rv al, .unset] [(.int 5)]) (fun _ k => XS.iload X74.here hx rfl (hb hby at_148) rfl k) ?_
    refine own_S (mkF m 151 #[iv sl, .val (.long nn), .second, iv x0, iv x1, .val (.long sc), .second, .val (.int 5), rv cs, rv st, rv al, rv al, .unset] [(.int 1), (.int 5)]) (fun _ k => XS.iconst X74.here hx rfl (hb hby at_150) k) ?_
    have hc196 : ¬ ((5 : Int32) = (1 : Int32)) := by decide
    refine own_S (mkF m 154 #[iv sl, .val (.long nn), .second, iv x0, iv x1, .val (.long sc), .second, .val (.int 5), rv cs, rv st, rv al, rv al, .unset] []) (fun _ k => XS.icmpNo X74.here hx rfl (hb hby at_151) rfl (feq hc196).1 k) ?_
    refine own_S (mkF m 156 #[iv sl, .val (.long nn), .second, iv x0, iv x1, .val (.long sc), .second, .val (.int 5), rv cs, rv st, rv al, rv al, .unset] [(.int 5)]) (fun _ k => XS.iload X74.here hx rfl (hb hby at_154) rfl k) ?_
    refine own_S (mkF m 157 #[iv sl, .val (.long nn), .second, iv x0, iv x1, .val (.long sc), .second, .val (.int 5), rv cs, rv st, rv al, rv al, .unset] [(.int 2), (.int 5)]) (fun _ k => XS.iconst X74.here hx rfl (hb hby at_156) k) ?_
    have hc197 : ¬ ((5 : Int32) = (2 : Int32)) := by decide
    refine own_S (mkF m 164 #[iv sl, .val (.long nn), .second, iv x0, iv x1, .val (.long sc), .second, .val (.int 5), rv cs, rv st, rv al, rv al, .unset] []) (fun _ k => XS.icmpYes X74.here hx rfl (pc0 := 157) (pc' := 164) rfl (hb hby at_157) rfl (feq hc197).2 (by decide) (by decide) k) ?_
    refine own_S (mkF m 165 #[iv sl, .val (.long nn), .second, iv x0, iv x1, .val (.long sc), .second, .val (.int 5), rv cs, rv st, rv al, rv al, .unset] [(.int 0)]) (fun _ k => XS.iconst X74.here hx rfl (hb hby at_164) k) ?_
    refine own_S (mkF m 167 #[iv sl, .val (.long nn), .second, iv x0, iv x1, .val (.long sc), .second, .val (.int 5), rv cs, rv st, rv al, rv al, .val (.int 0)] []) (fun _ k => XS.istore X74.here hx rfl (hb hby at_165) rfl (l' := #[iv sl, .val (.long nn), .second, iv x0, iv x1, .val (.long sc), .second, .val (.int 5), rv cs, rv st, rv al, rv al, .val (.int 0)]) rfl k) ?_
    refine own_S (mkF m 169 #[iv sl, .val (.long nn), .second, iv x0, iv x1, .val (.long sc), .second, .val (.int 5), rv cs, rv st, rv al, rv al, .val (.int 0)] [(.ref al)]) (fun _ k => XS.aload X74.here hx rfl (hb hby at_167) rfl rfl k) ?_
    obtain ⟨_, _, ⟨T198, L198, k198, n198⟩, -, X198, ⟨Lc198, hQ198, l198, y198, z198⟩, st198⟩ := Jvm.LawKit.callS X74 hx (y := own_y19) hown (mvT hZ (own_g hw (i := 94) rfl)) (mvT hZ (own_g hw (i := 95) rfl)) (mvT hZ (own_g hw (i := 96) rfl)) (mvT hZ (own_g hw (i := 97) rfl)) (by decide) (backOf (W := 0) (own_rmisA l Z a0 hw [] (al) T74.heap n0 Z74 F75) hZ (own_g hw (i := 97) rfl) (own_g hw (i := 96) rfl) (by decide) (by decide)) (g := (mkF m 169 #[iv sl, .val (.long nn), .second, iv x0, iv x1, .val (.long sc), .second, .val (.int 5), rv cs, rv st, rv al, rv al, .val (.int 0)] [(.ref al)])) rfl (by rw [hml]; rfl) (argsL := [(.ref al)]) (rest := []) (lenOf own_pd__Ljava_lang_Object__Z rfl) rfl (by show 2 * 0 + _ ≤ _; exact Nat.le_of_eq rfl) (hb hby at_169) (fun _ _ => ⟨rfl, rfl, (by decide : 6 + 0 ≤ _), (by decide : 22 + 0 ≤ _)⟩)
    dsimp only [Pt.U, Pt.locs, Pt.cells, Pt.slots] at X198 l198 y198 z198 st198 hQ198
    subst l198 y198 z198
    obtain ⟨rfl, N198q, e198⟩ := hQ198
    have N198 := Fr.app N74 N198q
    refine own_S (mkF m 172 #[iv sl, .val (.long nn), .second, iv x0, iv x1, .val (.long sc), .second, .val (.int 5), rv cs, rv st, rv al, rv al, .val (.int 0)] [(.int 0)]) (fun _ k => st198 _ k) ?_
    refine own_S (mkF m 174 #[iv sl, .val (.long nn), .second, iv x0, iv x1, .val (.long sc), .second, .val (.int 5), rv cs, rv st, rv al, rv al, .val (.int 0)] [(.int 0), (.int 0)]) (fun _ k => XS.iload X198.here hx rfl (hb hby at_172) rfl k) ?_
    have hc199 : (0 : Int32) = (0 : Int32) := by decide
    refine own_S (mkF m 177 #[iv sl, .val (.long nn), .second, iv x0, iv x1, .val (.long sc), .second, .val (.int 5), rv cs, rv st, rv al, rv al, .val (.int 0)] []) (fun _ k => XS.icmpNo X198.here hx rfl (hb hby at_174) rfl (teq hc199).2 k) ?_
    refine own_S (mkF m 178 #[iv sl, .val (.long nn), .second, iv x0, iv x1, .val (.long sc), .second, .val (.int 5), rv cs, rv st, rv al, rv al, .val (.int 0)] [(.int 1)]) (fun _ k => XS.iconst X198.here hx rfl (hb hby at_177) k) ?_
    refine own_S (mkF m 182 #[iv sl, .val (.long nn), .second, iv x0, iv x1, .val (.long sc), .second, .val (.int 5), rv cs, rv st, rv al, rv al, .val (.int 0)] [(.int 1)]) (fun _ k => XS.goto X198.here hx rfl (pc0 := 178) (pc' := 182) rfl (hb hby at_178) (by decide) (by decide) k) ?_
    exact own_retN X198 hx hlk (t := .boolean) hret (by simp) (hb hby at_182) (by rw [e198]; exact ⟨rfl, N198, trivial⟩) (by decide) (by decide)
set_option maxRecDepth 65536 in
set_option maxHeartbeats 40000000 in
theorem comes_1 {Post : Tables → Env → Array Value → State → Outcome → State → Prop} (hpost : ∀ tb e args s v u, (limb_1_1.after args s (.returned v) u = true ∧ limb_1_2.after args s (.returned v) u = true ∧ True) → FrameEnd s (.returned v) u (Jvm.fieldLocs frame_1_writes args s ++ Jvm.arrayLocs frame_1_arrays args s ++ Jvm.staticLocs frame_1_statics s) 24 128 → Post tb e args s (.returned v) u) :
    ArmFor flags0 classFile x code maxLocals ret World_1 tables_1 room_1 Calls_1 rest_1 Pre_1 Post := by
  intro l hfl _ _ p e ha hc hk s m args below hf hA hF happ hP
  obtain ⟨hcalls, hrest, hpre⟩ := hP
  obtain ⟨-, -, -, hnamed, -, -, -, hat⟩ := (Spec.applies_iff hf).mp happ
  obtain ⟨hg, hn⟩ := and_e (Cond.before_iff.mp (show (Jvm.Cond.and given_1 narrow_1).before args s = true from hpre))
  obtain ⟨h1, g0⟩ := and_e hg
  obtain ⟨k0, g1⟩ := and_e g0
  obtain ⟨k1, g2⟩ := and_e g1
  obtain ⟨k2, g3⟩ := and_e g2
  obtain ⟨k3, g4⟩ := and_e g3
  have k4 := g4
  obtain ⟨w0, w1, w2, w3, w4, rfl⟩ : ∃ w0 w1 w2 w3 w4 : Value, args = #[w0, w1, w2, w3, w4] := by
    have hs : args.size = 5 := by simpa [Cond.value, given_1] using h1
    obtain ⟨L⟩ := args
    match L, hs with
    | [w0, w1, w2, w3, w4], _ => exact ⟨w0, w1, w2, w3, w4, rfl⟩
  have hw := fun d (hd : d ∈ tables_1) => atoms_spec (ws := Jvm.Cond.code x code maxLocals ret :: tables_1) hat d (List.mem_cons_of_mem _ hd)
  obtain ⟨hsets, hown0⟩ := atoms_of _ (rest_1_c_eq ▸ (show rest_1_c.before _ s = true from hrest))
  have hfit : Fit s := fun {y c} hc i hi => by
    obtain ⟨ha, rfl⟩ := Array.getElem?_eq_some_iff.mp hc
    have q := List.all_eq_true.mp ((Array.all_eq_true_iff_forall_mem.mp hF) _ (Array.getElem_mem ha)) i (List.mem_range.mpr hi)
    simpa [Array.getElem?_eq_getElem hi] using q
  obtain ⟨i0, q0⟩ := is_v k0
  obtain rfl : w0 = (.int i0) := Option.some.inj q0
  obtain ⟨i1, q1⟩ := isL_v k1
  obtain rfl : w1 = (.long i1) := Option.some.inj q1
  obtain ⟨i2, q2⟩ := is_v k2
  obtain rfl : w2 = (.int i2) := Option.some.inj q2
  obtain ⟨i3, q3⟩ := is_v k3
  obtain rfl : w3 = (.int i3) := Option.some.inj q3
  obtain ⟨i4, q4⟩ := isL_v k4
  obtain rfl : w4 = (.long i4) := Option.some.inj q4
  obtain ⟨cz, evZ⟩ := is_v (Cond.before_iff.mp (hsets _ (List.mem_of_getElem? (i := 1) rfl)))
  have SZ := Sta.start evZ (Or.inl (hsets _ (List.mem_of_getElem? (i := 0) rfl)))
  have hz : ¬ (cz = (0 : Int32)) := gotF (Cond.eq_ints evZ (Term.int_eval (0))) (not_v (Cond.before_iff.mp (hsets _ (List.mem_of_getElem? (i := 2) rfl))))
  have y15 := Cond.before_iff.mp (hsets _ (List.mem_of_getElem? (i := 15) rfl))
  have y17 := Cond.before_iff.mp (hsets _ (List.mem_of_getElem? (i := 17) rfl))
  obtain ⟨ea, evE⟩ := arr_v y15
  have SE := Sta.start evE (Or.inr ⟨(own_g hw (i := 33) rfl), (hsets _ (List.mem_of_getElem? (i := 11) rfl))⟩)
  obtain ⟨ke, AE⟩ := own_empty evE y15 y17
  have y20 := Cond.before_iff.mp (hsets _ (List.mem_of_getElem? (i := 20) rfl))
  have y22 := Cond.before_iff.mp (hsets _ (List.mem_of_getElem? (i := 22) rfl))
  have y23 := Cond.before_iff.mp (hsets _ (List.mem_of_getElem? (i := 23) rfl))
  obtain ⟨ca, evC⟩ := arr_v y20
  have SC := Sta.start evC (Or.inl (hsets _ (List.mem_of_getElem? (i := 19) rfl)))
  have hC := own_cache0 evC y20 y22 y23
  obtain ⟨n, o, h1, h2, h3, _, L, rfl, ⟨rfl, N, -⟩, hq⟩ := own_rmlaw l s _ hw tables_1 i0 i1 i2 i3 i4 ca ea ke cz s.heap s.heap.size (Nat.le_refl _) (Old.start s) SZ SE AE SC hC hz p e ha hc hk s m _ below hf ((Spec.applies_iff_loose hf).mp happ).1 ⟨rfl, State.Warmed39.refl s, rfl⟩ trivial
  refine ⟨n, _, h1, h2, h3, hpost _ _ _ _ _ _ ⟨Cond.after_iff.mpr rfl, Cond.after_iff.mpr (eq_i res_at (Term.int_eval (1)) rfl), trivial⟩ ⟨hq.1, hq.2.1, (hq.2.2.sift fun y hy => Or.inr (N y hy)).mono (by decide) (by decide)⟩⟩
theorem main_1_1 : Claimed_1_1 := comes_1 fun _ _ _ _ _ _ h hF => ⟨h.1, hF⟩
theorem main_1_2 : Claimed_1_2 := comes_1 fun _ _ _ _ _ _ h hF => ⟨h.2.1, hF⟩
end Jvm.Pilot.@@N@@
namespace Jvm.Pilot.@@N@@
open Jvm Jvm.ClassFile Sem Op Lib Jvm.Free Jvm.Stand Jvm.Pilot.@@N@@.Jvm.D
/-! MADE BY PROGRAM (witnessworld.py) out of the Statement's table words and the real class files: 37 classes; the members and pool entries that the words name. The judged class is class 1, her method 1. -/
namespace start1
open Jvm.ClassFile
def u (s : String) : CpInfo := .utf8 (stringToUtf16 s)
/-- a pool by its gaps: so many unusable entries, then the entry; so many at the end -/
def gap : Nat → List CpInfo → List CpInfo
  | 0, r => r
  | n + 1, r => .unusable :: gap n r
def poolList (es : List (Nat × CpInfo)) (last : Nat) : List CpInfo := es.foldr (fun e r => gap e.1 (e.2 :: r)) (gap last [])
def pool (es : List (Nat × CpInfo)) (last : Nat) : Array CpInfo := ⟨poolList es last⟩
def fileOf (pool : Array CpInfo) (this : Nat) (attrs : Array Attribute := #[]) (ms : Array MethodInfo := #[]) (fl : Nat := 33) (sup : Nat := 0) (ifs : Array Nat := #[]) (fds : Array FieldInfo := #[]) : ClassFile where
  minorVersion := 0
  majorVersion := 65
  constantPool := pool
  accessFlags := fl
  thisClass := this
  superClass := sup
  interfaces := ifs
  fields := fds
  methods := ms
  attributes := attrs
def plain (name : String) (sup : Option ClassId) : Class where
  name := name
  kind := .ordinary
  loader := none
  accessFlags := 33
  super := sup
  interfaces := #[]
  cf := none
  fields := #[]
  methods := #[]
  instanceTypes := #[]
  staticTypes := #[]
  resolved := #[]
  callSites := []
  init := .initialized
  statics := none
  mirror := none

def pool0 : Array CpInfo := pool [(5, u "<init>"), (0, u "()V"), (1, .class_ 10), (1, u "java/lang/Object")] 113

def k0c0 : Code := { maxStack := 0, maxLocals := 1, code := object_method_1_code, exceptionTable := #[], attributes := #[] }
def k0m0 : Method := { name := "<init>", desc := "()V", sig := { parameters := [], returnType := none }, accessFlags := 1, code := some k0c0 }
/-- java/lang/Object -/
def k0 : Class := { plain "java/lang/Object" none with
  accessFlags := 33
  interfaces := #[]
  cf := some (fileOf pool0 8 #[] #[{ accessFlags := 1, nameIndex := 5, descriptorIndex := 6, attributes := #[] }] 33 0 #[] #[])
  fields := #[]
  methods := #[k0m0]
  instanceTypes := #[]
  staticTypes := #[]
  resolved := Array.replicate 124 none
  statics := none }

def pool1 : Array CpInfo := pool [(2, .class_ 4), (0, .nameAndType 5 6), (0, u "java/lang/Object"), (0, u "<init>"), (0, u "()V"), (0, .integer 2147483647), (0, .class_ 9), (0, u "java/lang/String"), (0, .methodref 8 11), (0, .nameAndType 5 12), (0, u "([C)V"), (0, .class_ 14), (0, u "java/util/ArrayList"), (0, .methodref 13 3), (0, .methodref 17 18), (0, .class_ 19), (0, .nameAndType 20 21), (0, u "java/lang/Long"), (0, u "valueOf"), (0, u "(J)Ljava/lang/Long;"), (0, .methodref 13 23), (0, .nameAndType 24 25), (0, u "add"), (0, u "(Ljava/lang/Object;)Z"), (0, .class_ 27), (0, u "com/example/lockstep/lockstep/history/Edn$BigInt"), (0, .methodref 26 29), (0, .nameAndType 5 30), (0, u "(Ljava/lang/String;)V"), (0, .class_ 32), (0, u "com/example/lockstep/lockstep/history/Edn$Decimal"), (0, .methodref 31 34), (0, .nameAndType 5 35), (0, u "(Ljava/lang/String;J)V"), (0, .methodref 37 38), (0, .class_ 39), (0, .nameAndType 40 25), (0, u "com/example/lockstep/lockstep/history/Edn"), (0, u "isInteger"), (0, .class_ 42), (0, u "com/example/lockstep/lockstep/history/EdnIsIntegerPinLaw"), (2, u "law"), (0, u "(IJIIJ)Z")] 8

def k1m0 : Method := { name := "<init>", desc := "()V", sig := { parameters := [], returnType := none }, accessFlags := 2, code := none }
def k1c1 : Code := { maxStack := 5, maxLocals := 13, code := code, exceptionTable := #[], attributes := #[] }
def k1m1 : Method := { name := "law", desc := "(IJIIJ)Z", sig := { parameters := [.int, .long, .int, .int, .long], returnType := some .boolean }, accessFlags := 9, code := some k1c1 }
/-- com/example/lockstep/lockstep/history/EdnIsIntegerPinLaw -/
def k1 : Class := { plain "com/example/lockstep/lockstep/history/EdnIsIntegerPinLaw" (some 0) with
  accessFlags := 49
  interfaces := #[]
  cf := some (fileOf pool1 41 #[] #[{ accessFlags := 2, nameIndex := 5, descriptorIndex := 6, attributes := #[] }, { accessFlags := 9, nameIndex := 45, descriptorIndex := 46, attributes := #[] }] 49 2 #[] #[])
  fields := #[]
  methods := #[k1m0, k1m1]
  instanceTypes := #[]
  staticTypes := #[]
  resolved := Array.replicate 55 none
  statics := none }

def pool2 : Array CpInfo := pool [(1, .class_ 2), (0, u "java/io/Serializable"), (0, .class_ 4), (0, u "java/lang/Object")] 2

/-- java/io/Serializable -/
def k2 : Class := { plain "java/io/Serializable" (some 0) with
  accessFlags := 1537
  interfaces := #[]
  cf := some (fileOf pool2 1 #[] #[] 1537 3 #[] #[])
  fields := #[]
  methods := #[]
  instanceTypes := #[]
  staticTypes := #[]
  resolved := Array.replicate 7 none
  statics := none }

def pool3 : Array CpInfo := pool [(1, .class_ 2), (0, u "java/lang/Comparable"), (0, .class_ 4), (0, u "java/lang/Object")] 7

/-- java/lang/Comparable -/
def k3 : Class := { plain "java/lang/Comparable" (some 0) with
  accessFlags := 1537
  interfaces := #[]
  cf := some (fileOf pool3 1 #[] #[] 1537 3 #[] #[])
  fields := #[]
  methods := #[]
  instanceTypes := #[]
  staticTypes := #[]
  resolved := Array.replicate 12 none
  statics := none }

def pool4 : Array CpInfo := pool [(2, .class_ 4), (1, u "java/lang/CharSequence"), (42, .class_ 48), (0, u "java/lang/CharSequence$1CodePointIterator"), (10, .class_ 60), (0, u "java/lang/CharSequence$1CharIterator"), (5, .class_ 67), (0, u "java/lang/Object")] 63

/-- java/lang/CharSequence -/
def k4 : Class := { plain "java/lang/CharSequence" (some 0) with
  accessFlags := 1537
  interfaces := #[]
  cf := some (fileOf pool4 2 #[.nestMembers #[47, 59]] #[] 1537 66 #[] #[])
  fields := #[]
  methods := #[]
  instanceTypes := #[]
  staticTypes := #[]
  resolved := Array.replicate 131 none
  statics := none }

def pool5 : Array CpInfo := pool [(1, .class_ 2), (0, u "java/lang/constant/Constable"), (0, .class_ 4), (0, u "java/lang/Object")] 6

/-- java/lang/constant/Constable -/
def k5 : Class := { plain "java/lang/constant/Constable" (some 0) with
  accessFlags := 1537
  interfaces := #[]
  cf := some (fileOf pool5 1 #[] #[] 1537 3 #[] #[])
  fields := #[]
  methods := #[]
  instanceTypes := #[]
  staticTypes := #[]
  resolved := Array.replicate 11 none
  statics := none }

def pool6 : Array CpInfo := pool [(1, .class_ 2), (0, u "java/lang/constant/ConstantDesc"), (0, .class_ 4), (0, u "java/lang/Object")] 32

/-- java/lang/constant/ConstantDesc -/
def k6 : Class := { plain "java/lang/constant/ConstantDesc" (some 0) with
  accessFlags := 1537
  interfaces := #[]
  cf := some (fileOf pool6 1 #[] #[] 1537 3 #[] #[])
  fields := #[]
  methods := #[]
  instanceTypes := #[]
  staticTypes := #[]
  resolved := Array.replicate 37 none
  statics := none }

def pool7 : Array CpInfo := pool [(1, .methodref 2 3), (0, .class_ 4), (0, .nameAndType 5 6), (0, u "java/lang/Object"), (0, u "<init>"), (0, u "()V"), (2, .fieldref 10 11), (0, .class_ 12), (0, .nameAndType 13 14), (0, u "java/lang/String"), (0, u "value"), (0, u "[B"), (0, .fieldref 10 16), (0, .nameAndType 17 18), (0, u "coder"), (0, u "B"), (2, u "hash"), (0, u "I"), (2, u "hashIsZero"), (0, u "Z"), (0, .methodref 10 28), (0, .nameAndType 5 29), (0, u "([CIILjava/lang/Void;)V"), (8, .fieldref 10 39), (0, .nameAndType 40 26), (0, u "COMPACT_STRINGS"), (1, .class_ 44), (1, u "java/lang/StringUTF16"), (0, u "compress"), (1, .methodref 42 48), (0, .nameAndType 49 50), (0, u "coderFromArrayLen"), (0, u "([BI)B"), (126, .methodref 42 178), (0, .nameAndType 45 179), (0, u "([CII)[B"), (395, .class_ 576), (0, u "java/lang/CharSequence"), (22, u "CASE_INSENSITIVE_ORDER"), (0, u "Ljava/util/Comparator;"), (409, u "([C)V"), (90, u "serialPersistentFields"), (0, u "[Ljava/io/ObjectStreamField;"), (0, .class_ 1104), (0, u "java/lang/String$CaseInsensitiveComparator"), (1, .class_ 1107), (0, u "java/io/Serializable"), (0, .class_ 1109), (0, u "java/lang/Comparable"), (0, .class_ 1111), (0, u "java/lang/constant/Constable"), (0, .class_ 1113), (0, u "java/lang/constant/ConstantDesc"), (2, u "serialVersionUID"), (0, u "J"), (3, u "REPL"), (0, u "C"), (2, u "LATIN1"), (1, u "UTF16")] 323

def k7m0 : Method := { name := "<init>", desc := "()V", sig := { parameters := [], returnType := none }, accessFlags := 1, code := none }
def k7c1 : Code := { maxStack := 5, maxLocals := 2, code := jdk_42_method_3_code, exceptionTable := #[], attributes := #[] }
def k7m1 : Method := { name := "<init>", desc := "([C)V", sig := { parameters := [(.array .char)], returnType := none }, accessFlags := 1, code := some k7c1 }
def k7c2 : Code := { maxStack := 4, maxLocals := 6, code := jdk_42_method_149_code, exceptionTable := #[], attributes := #[] }
def k7m2 : Method := { name := "<init>", desc := "([CIILjava/lang/Void;)V", sig := { parameters := [(.array .char), .int, .int, (.object "java/lang/Void")], returnType := none }, accessFlags := 2, code := some k7c2 }
/-- java/lang/String -/
def k7 : Class := { plain "java/lang/String" (some 0) with
  accessFlags := 49
  interfaces := #[2, 3, 4, 5, 6]
  cf := some (fileOf pool7 10 #[.nestMembers #[1103]] #[{ accessFlags := 1, nameIndex := 5, descriptorIndex := 6, attributes := #[] }, { accessFlags := 1, nameIndex := 5, descriptorIndex := 1010, attributes := #[] }, { accessFlags := 2, nameIndex := 5, descriptorIndex := 29, attributes := #[] }] 49 2 #[1106, 1108, 575, 1110, 1112] #[{ accessFlags := 18, nameIndex := 13, descriptorIndex := 14, attributes := #[] }, { accessFlags := 18, nameIndex := 17, descriptorIndex := 18, attributes := #[] }, { accessFlags := 2, nameIndex := 21, descriptorIndex := 22, attributes := #[] }, { accessFlags := 2, nameIndex := 25, descriptorIndex := 26, attributes := #[] }, { accessFlags := 26, nameIndex := 1116, descriptorIndex := 1117, attributes := #[] }, { accessFlags := 24, nameIndex := 40, descriptorIndex := 26, attributes := #[] }, { accessFlags := 26, nameIndex := 1101, descriptorIndex := 1102, attributes := #[] }, { accessFlags := 26, nameIndex := 1121, descriptorIndex := 1122, attributes := #[] }, { accessFlags := 25, nameIndex := 599, descriptorIndex := 600, attributes := #[] }, { accessFlags := 24, nameIndex := 1125, descriptorIndex := 18, attributes := #[] }, { accessFlags := 24, nameIndex := 1127, descriptorIndex := 18, attributes := #[] }])
  fields := #[{ name := "value", type := (.array .byte), accessFlags := 18, slot := 0, constantValue := 0 }, { name := "coder", type := .byte, accessFlags := 18, slot := 1, constantValue := 0 }, { name := "hash", type := .int, accessFlags := 2, slot := 2, constantValue := 0 }, { name := "hashIsZero", type := .boolean, accessFlags := 2, slot := 3, constantValue := 0 }, { name := "serialVersionUID", type := .long, accessFlags := 26, slot := 0, constantValue := 0 }, { name := "COMPACT_STRINGS", type := .boolean, accessFlags := 24, slot := 1, constantValue := 0 }, { name := "serialPersistentFields", type := (.array (.object "java/io/ObjectStreamField")), accessFlags := 26, slot := 2, constantValue := 0 }, { name := "REPL", type := .char, accessFlags := 26, slot := 3, constantValue := 0 }, { name := "CASE_INSENSITIVE_ORDER", type := (.object "java/util/Comparator"), accessFlags := 25, slot := 4, constantValue := 0 }, { name := "LATIN1", type := .byte, accessFlags := 24, slot := 5, constantValue := 0 }, { name := "UTF16", type := .byte, accessFlags := 24, slot := 6, constantValue := 0 }]
  methods := #[k7m0, k7m1, k7m2]
  instanceTypes := #[(.array .byte), .byte, .int, .boolean]
  staticTypes := #[.long, .boolean, (.array (.object "java/io/ObjectStreamField")), .char, (.object "java/util/Comparator"), .byte, .byte]
  resolved := Array.replicate 1451 none
  statics := some 0 }

def pool8 : Array CpInfo := pool [(6, .class_ 8), (1, u "java/lang/Object"), (0, u "<init>"), (0, u "()V"), (1, .class_ 14), (1, u "java/lang/StringUTF16"), (31, u "$assertionsDisabled"), (0, u "Z"), (13, u "HI_BYTE_SHIFT"), (0, u "I"), (2, u "LO_BYTE_SHIFT"), (49, .methodref 12 116), (0, .nameAndType 117 118), (0, u "compress"), (0, u "([CI[BII)I"), (3, u "([CII)[B"), (138, u "coderFromArrayLen"), (0, u "([BI)B"), (106, .class_ 371), (1, u "java/lang/StringUTF16$LinesSpliterator"), (58, u "MAX_LENGTH"), (196, .class_ 628), (0, u "java/lang/StringUTF16$CodePointsSpliterator"), (0, .class_ 630), (0, u "java/lang/StringUTF16$CharsSpliterator")] 4

def k8m0 : Method := { name := "<init>", desc := "()V", sig := { parameters := [], returnType := none }, accessFlags := 0, code := none }
def k8c1 : Code := { maxStack := 2, maxLocals := 2, code := jdk_52_method_15_code, exceptionTable := #[], attributes := #[] }
def k8m1 : Method := { name := "coderFromArrayLen", desc := "([BI)B", sig := { parameters := [(.array .byte), .int], returnType := some .byte }, accessFlags := 8, code := some k8c1 }
def k8c2 : Code := { maxStack := 5, maxLocals := 6, code := jdk_52_method_16_code, exceptionTable := #[], attributes := #[] }
def k8m2 : Method := { name := "compress", desc := "([CII)[B", sig := { parameters := [(.array .char), .int, .int], returnType := some (.array .byte) }, accessFlags := 9, code := some k8c2 }
def k8c3 : Code := { maxStack := 3, maxLocals := 7, code := jdk_52_method_21_code, exceptionTable := #[], attributes := #[] }
def k8m3 : Method := { name := "compress", desc := "([CI[BII)I", sig := { parameters := [(.array .char), .int, (.array .byte), .int, .int], returnType := some .int }, accessFlags := 9, code := some k8c3 }
/-- java/lang/StringUTF16 -/
def k8 : Class := { plain "java/lang/StringUTF16" (some 0) with
  accessFlags := 48
  interfaces := #[]
  cf := some (fileOf pool8 12 #[.nestMembers #[627, 629, 369]] #[{ accessFlags := 0, nameIndex := 9, descriptorIndex := 10, attributes := #[] }, { accessFlags := 8, nameIndex := 261, descriptorIndex := 262, attributes := #[] }, { accessFlags := 9, nameIndex := 117, descriptorIndex := 122, attributes := #[] }, { accessFlags := 9, nameIndex := 117, descriptorIndex := 118, attributes := #[] }] 48 6 #[] #[{ accessFlags := 26, nameIndex := 61, descriptorIndex := 62, attributes := #[] }, { accessFlags := 26, nameIndex := 65, descriptorIndex := 62, attributes := #[] }, { accessFlags := 24, nameIndex := 430, descriptorIndex := 62, attributes := #[] }, { accessFlags := 4120, nameIndex := 46, descriptorIndex := 47, attributes := #[] }])
  fields := #[{ name := "HI_BYTE_SHIFT", type := .int, accessFlags := 26, slot := 0, constantValue := 0 }, { name := "LO_BYTE_SHIFT", type := .int, accessFlags := 26, slot := 1, constantValue := 0 }, { name := "MAX_LENGTH", type := .int, accessFlags := 24, slot := 2, constantValue := 0 }, { name := "$assertionsDisabled", type := .boolean, accessFlags := 4120, slot := 3, constantValue := 0 }]
  methods := #[k8m0, k8m1, k8m2, k8m3]
  instanceTypes := #[]
  staticTypes := #[.int, .int, .int, .boolean]
  resolved := Array.replicate 635 none
  statics := none }

def pool9 : Array CpInfo := pool [(8, .class_ 10), (1, u "java/lang/Iterable"), (24, .class_ 36), (0, u "java/lang/Object")] 25

/-- java/lang/Iterable -/
def k9 : Class := { plain "java/lang/Iterable" (some 0) with
  accessFlags := 1537
  interfaces := #[]
  cf := some (fileOf pool9 8 #[] #[] 1537 35 #[] #[])
  fields := #[]
  methods := #[]
  instanceTypes := #[]
  staticTypes := #[]
  resolved := Array.replicate 62 none
  statics := none }

def pool10 : Array CpInfo := pool [(10, .class_ 12), (1, u "java/util/Collection"), (47, .class_ 61), (0, u "java/lang/Object"), (0, .class_ 63), (0, u "java/lang/Iterable")] 51

/-- java/util/Collection -/
def k10 : Class := { plain "java/util/Collection" (some 0) with
  accessFlags := 1537
  interfaces := #[9]
  cf := some (fileOf pool10 10 #[] #[] 1537 60 #[62] #[])
  fields := #[]
  methods := #[]
  instanceTypes := #[]
  staticTypes := #[]
  resolved := Array.replicate 115 none
  statics := none }

def pool11 : Array CpInfo := pool [(1, .methodref 2 3), (0, .class_ 4), (0, .nameAndType 5 6), (0, u "java/lang/Object"), (0, u "<init>"), (0, u "()V"), (1, .class_ 10), (1, u "java/util/AbstractCollection"), (66, .class_ 78), (0, u "java/util/Collection")] 81

def k11c0 : Code := { maxStack := 1, maxLocals := 1, code := jdk_22_method_1_code, exceptionTable := #[], attributes := #[] }
def k11m0 : Method := { name := "<init>", desc := "()V", sig := { parameters := [], returnType := none }, accessFlags := 4, code := some k11c0 }
/-- java/util/AbstractCollection -/
def k11 : Class := { plain "java/util/AbstractCollection" (some 0) with
  accessFlags := 1057
  interfaces := #[10]
  cf := some (fileOf pool11 8 #[] #[{ accessFlags := 4, nameIndex := 5, descriptorIndex := 6, attributes := #[] }] 1057 2 #[77] #[])
  fields := #[]
  methods := #[k11m0]
  instanceTypes := #[]
  staticTypes := #[]
  resolved := Array.replicate 160 none
  statics := none }

def pool12 : Array CpInfo := pool [(8, .class_ 10), (1, u "java/util/SequencedCollection"), (15, .class_ 27), (0, u "java/lang/Object"), (0, .class_ 29), (0, u "java/util/Collection")] 27

/-- java/util/SequencedCollection -/
def k12 : Class := { plain "java/util/SequencedCollection" (some 0) with
  accessFlags := 1537
  interfaces := #[10]
  cf := some (fileOf pool12 8 #[] #[] 1537 26 #[28] #[])
  fields := #[]
  methods := #[]
  instanceTypes := #[]
  staticTypes := #[]
  resolved := Array.replicate 57 none
  statics := none }

def pool13 : Array CpInfo := pool [(8, .class_ 10), (1, u "java/util/List"), (92, .class_ 104), (0, u "java/lang/Object"), (15, .class_ 121), (0, u "java/util/SequencedCollection")] 129

/-- java/util/List -/
def k13 : Class := { plain "java/util/List" (some 0) with
  accessFlags := 1537
  interfaces := #[12]
  cf := some (fileOf pool13 8 #[] #[] 1537 103 #[120] #[])
  fields := #[]
  methods := #[]
  instanceTypes := #[]
  staticTypes := #[]
  resolved := Array.replicate 251 none
  statics := none }

def pool14 : Array CpInfo := pool [(1, .methodref 2 3), (0, .class_ 4), (0, .nameAndType 5 6), (0, u "java/util/AbstractCollection"), (0, u "<init>"), (0, u "()V"), (0, .fieldref 8 9), (0, .class_ 10), (0, .nameAndType 11 12), (0, u "java/util/AbstractList"), (0, u "modCount"), (0, u "I"), (64, .class_ 78), (0, u "java/util/AbstractList$Itr"), (3, .class_ 83), (0, u "java/util/AbstractList$ListItr"), (9, .class_ 94), (0, u "java/util/AbstractList$RandomAccessSubList"), (3, .class_ 99), (0, u "java/util/AbstractList$SubList"), (33, .class_ 134), (0, u "java/util/List"), (73, .class_ 209), (0, u "java/util/AbstractList$SubList$1"), (0, .class_ 211), (0, u "java/util/AbstractList$RandomAccessSpliterator")] 6

def k14c0 : Code := { maxStack := 2, maxLocals := 1, code := jdk_39_method_1_code, exceptionTable := #[], attributes := #[] }
def k14m0 : Method := { name := "<init>", desc := "()V", sig := { parameters := [], returnType := none }, accessFlags := 4, code := some k14c0 }
/-- java/util/AbstractList -/
def k14 : Class := { plain "java/util/AbstractList" (some 11) with
  accessFlags := 1057
  interfaces := #[13]
  cf := some (fileOf pool14 8 #[.nestMembers #[93, 98, 208, 210, 82, 77]] #[{ accessFlags := 4, nameIndex := 5, descriptorIndex := 6, attributes := #[] }] 1057 2 #[133] #[{ accessFlags := 132, nameIndex := 11, descriptorIndex := 12, attributes := #[] }])
  fields := #[{ name := "modCount", type := .int, accessFlags := 132, slot := 0, constantValue := 0 }]
  methods := #[k14m0]
  instanceTypes := #[.int]
  staticTypes := #[]
  resolved := Array.replicate 218 none
  statics := none }

def pool15 : Array CpInfo := pool [(1, .class_ 2), (0, u "java/util/RandomAccess"), (0, .class_ 4), (0, u "java/lang/Object")] 2

/-- java/util/RandomAccess -/
def k15 : Class := { plain "java/util/RandomAccess" (some 0) with
  accessFlags := 1537
  interfaces := #[]
  cf := some (fileOf pool15 1 #[] #[] 1537 3 #[] #[])
  fields := #[]
  methods := #[]
  instanceTypes := #[]
  staticTypes := #[]
  resolved := Array.replicate 7 none
  statics := none }

def pool16 : Array CpInfo := pool [(1, .class_ 2), (0, u "java/lang/Cloneable"), (0, .class_ 4), (0, u "java/lang/Object")] 2

/-- java/lang/Cloneable -/
def k16 : Class := { plain "java/lang/Cloneable" (some 0) with
  accessFlags := 1537
  interfaces := #[]
  cf := some (fileOf pool16 1 #[] #[] 1537 3 #[] #[])
  fields := #[]
  methods := #[]
  instanceTypes := #[]
  staticTypes := #[]
  resolved := Array.replicate 7 none
  statics := none }

def pool17 : Array CpInfo := pool [(1, .methodref 2 3), (0, .class_ 4), (0, .nameAndType 5 6), (0, u "java/util/AbstractList"), (0, u "<init>"), (0, u "()V"), (0, .class_ 8), (0, u "java/lang/Object"), (0, .fieldref 10 11), (0, .class_ 12), (0, .nameAndType 13 14), (0, u "java/util/ArrayList"), (0, u "elementData"), (0, u "[Ljava/lang/Object;"), (2, u "EMPTY_ELEMENTDATA"), (21, .fieldref 10 40), (0, .nameAndType 41 14), (0, u "DEFAULTCAPACITY_EMPTY_ELEMENTDATA"), (5, u "()[Ljava/lang/Object;"), (0, .fieldref 10 49), (0, .nameAndType 50 51), (0, u "size"), (0, u "I"), (11, .fieldref 10 64), (0, .nameAndType 65 51), (0, u "modCount"), (3, .methodref 10 70), (0, .nameAndType 71 72), (0, u "grow"), (0, u "(I)[Ljava/lang/Object;"), (6, .methodref 80 81), (0, .class_ 82), (0, .nameAndType 83 84), (0, u "java/lang/Math"), (0, u "max"), (0, u "(II)I"), (11, u "(Ljava/lang/Object;)Z"), (32, .methodref 10 130), (0, .nameAndType 71 47), (0, .methodref 10 132), (0, .nameAndType 133 134), (0, u "add"), (0, u "(Ljava/lang/Object;[Ljava/lang/Object;I)V"), (13, .class_ 149), (0, u "java/util/List"), (112, .class_ 263), (0, u "java/util/ArrayList$ListItr"), (3, .class_ 268), (0, u "java/util/ArrayList$Itr"), (7, .class_ 277), (0, u "java/util/ArrayList$SubList"), (12, .class_ 291), (0, u "java/util/ArrayList$ArrayListSpliterator"), (37, .class_ 330), (0, u "java/util/RandomAccess"), (0, .class_ 332), (0, u "java/lang/Cloneable"), (0, .class_ 334), (0, u "java/io/Serializable"), (0, u "serialVersionUID"), (0, u "J"), (3, u "DEFAULT_CAPACITY"), (159, .class_ 501), (0, u "java/util/ArrayList$SubList$2"), (0, .class_ 503), (0, u "java/util/ArrayList$SubList$1")] 5

def k17c0 : Code := { maxStack := 2, maxLocals := 1, code := jdk_38_method_2_code, exceptionTable := #[], attributes := #[] }
def k17m0 : Method := { name := "<init>", desc := "()V", sig := { parameters := [], returnType := none }, accessFlags := 1, code := some k17c0 }
def k17c1 : Code := { maxStack := 4, maxLocals := 4, code := jdk_38_method_6_code, exceptionTable := #[], attributes := #[] }
def k17m1 : Method := { name := "grow", desc := "(I)[Ljava/lang/Object;", sig := { parameters := [.int], returnType := some (.array (.object "java/lang/Object")) }, accessFlags := 2, code := some k17c1 }
def k17c2 : Code := { maxStack := 3, maxLocals := 1, code := jdk_38_method_7_code, exceptionTable := #[], attributes := #[] }
def k17m2 : Method := { name := "grow", desc := "()[Ljava/lang/Object;", sig := { parameters := [], returnType := some (.array (.object "java/lang/Object")) }, accessFlags := 2, code := some k17c2 }
def k17c3 : Code := { maxStack := 3, maxLocals := 4, code := jdk_38_method_24_code, exceptionTable := #[], attributes := #[] }
def k17m3 : Method := { name := "add", desc := "(Ljava/lang/Object;[Ljava/lang/Object;I)V", sig := { parameters := [(.object "java/lang/Object"), (.array (.object "java/lang/Object")), .int], returnType := none }, accessFlags := 2, code := some k17c3 }
def k17c4 : Code := { maxStack := 4, maxLocals := 2, code := jdk_38_method_25_code, exceptionTable := #[], attributes := #[] }
def k17m4 : Method := { name := "add", desc := "(Ljava/lang/Object;)Z", sig := { parameters := [(.object "java/lang/Object")], returnType := some .boolean }, accessFlags := 1, code := some k17c4 }
/-- java/util/ArrayList -/
def k17 : Class := { plain "java/util/ArrayList" (some 14) with
  accessFlags := 33
  interfaces := #[13, 15, 16, 2]
  cf := some (fileOf pool17 10 #[.nestMembers #[290, 276, 500, 502, 262, 267]] #[{ accessFlags := 1, nameIndex := 5, descriptorIndex := 6, attributes := #[] }, { accessFlags := 2, nameIndex := 71, descriptorIndex := 72, attributes := #[] }, { accessFlags := 2, nameIndex := 71, descriptorIndex := 47, attributes := #[] }, { accessFlags := 2, nameIndex := 133, descriptorIndex := 134, attributes := #[] }, { accessFlags := 1, nameIndex := 133, descriptorIndex := 96, attributes := #[] }] 33 2 #[148, 329, 331, 333] #[{ accessFlags := 26, nameIndex := 335, descriptorIndex := 336, attributes := #[] }, { accessFlags := 26, nameIndex := 340, descriptorIndex := 51, attributes := #[] }, { accessFlags := 26, nameIndex := 17, descriptorIndex := 14, attributes := #[] }, { accessFlags := 26, nameIndex := 41, descriptorIndex := 14, attributes := #[] }, { accessFlags := 128, nameIndex := 13, descriptorIndex := 14, attributes := #[] }, { accessFlags := 2, nameIndex := 50, descriptorIndex := 51, attributes := #[] }])
  fields := #[{ name := "serialVersionUID", type := .long, accessFlags := 26, slot := 0, constantValue := 0 }, { name := "DEFAULT_CAPACITY", type := .int, accessFlags := 26, slot := 1, constantValue := 0 }, { name := "EMPTY_ELEMENTDATA", type := (.array (.object "java/lang/Object")), accessFlags := 26, slot := 2, constantValue := 0 }, { name := "DEFAULTCAPACITY_EMPTY_ELEMENTDATA", type := (.array (.object "java/lang/Object")), accessFlags := 26, slot := 3, constantValue := 0 }, { name := "elementData", type := (.array (.object "java/lang/Object")), accessFlags := 128, slot := 1, constantValue := 0 }, { name := "size", type := .int, accessFlags := 2, slot := 2, constantValue := 0 }]
  methods := #[k17m0, k17m1, k17m2, k17m3, k17m4]
  instanceTypes := #[.int, (.array (.object "java/lang/Object")), .int]
  staticTypes := #[.long, .int, (.array (.object "java/lang/Object")), (.array (.object "java/lang/Object"))]
  resolved := Array.replicate 509 none
  statics := some 1 }

def pool18 : Array CpInfo := pool [(1, .methodref 2 3), (0, .class_ 4), (0, .nameAndType 5 6), (0, u "java/lang/Object"), (0, u "<init>"), (0, u "()V"), (1, .class_ 10), (1, u "java/lang/Number"), (2, .class_ 14), (0, u "java/io/Serializable"), (0, u "serialVersionUID"), (0, u "J")] 20

def k18c0 : Code := { maxStack := 1, maxLocals := 1, code := jdk_18_method_1_code, exceptionTable := #[], attributes := #[] }
def k18m0 : Method := { name := "<init>", desc := "()V", sig := { parameters := [], returnType := none }, accessFlags := 1, code := some k18c0 }
/-- java/lang/Number -/
def k18 : Class := { plain "java/lang/Number" (some 0) with
  accessFlags := 1057
  interfaces := #[2]
  cf := some (fileOf pool18 8 #[] #[{ accessFlags := 1, nameIndex := 5, descriptorIndex := 6, attributes := #[] }] 1057 2 #[13] #[{ accessFlags := 26, nameIndex := 15, descriptorIndex := 16, attributes := #[] }])
  fields := #[{ name := "serialVersionUID", type := .long, accessFlags := 26, slot := 0, constantValue := 0 }]
  methods := #[k18m0]
  instanceTypes := #[]
  staticTypes := #[.long]
  resolved := Array.replicate 37 none
  statics := none }

def pool19 : Array CpInfo := pool [(1, .class_ 2), (0, u "java/lang/Long"), (55, .nameAndType 59 60), (0, u "<init>"), (0, u "()V"), (24, u "valueOf"), (143, u "(J)Ljava/lang/Long;"), (0, .long 18446744073709551488), (1, .long 127), (1, .fieldref 235 236), (0, .class_ 237), (0, .nameAndType 238 239), (0, u "java/lang/Long$LongCache"), (0, u "cache"), (0, u "[Ljava/lang/Long;"), (0, .methodref 1 241), (0, .nameAndType 59 242), (0, u "(J)V"), (27, .methodref 271 58), (0, .class_ 272), (0, u "java/lang/Number"), (0, .fieldref 1 274), (0, .nameAndType 275 276), (0, u "value"), (0, u "J"), (84, u "TYPE"), (0, u "Ljava/lang/Class;"), (0, .class_ 364), (0, u "java/lang/Comparable"), (0, .class_ 366), (0, u "java/lang/constant/Constable"), (0, .class_ 368), (0, u "java/lang/constant/ConstantDesc"), (0, u "MIN_VALUE"), (1, u "MAX_VALUE"), (4, u "SIZE"), (0, u "I"), (1, u "BYTES"), (1, u "serialVersionUID")] 142

def k19c0 : Code := { maxStack := 4, maxLocals := 3, code := jdk_35_method_24_code, exceptionTable := #[], attributes := #[] }
def k19m0 : Method := { name := "valueOf", desc := "(J)Ljava/lang/Long;", sig := { parameters := [.long], returnType := some (.object "java/lang/Long") }, accessFlags := 9, code := some k19c0 }
def k19c1 : Code := { maxStack := 3, maxLocals := 3, code := jdk_35_method_26_code, exceptionTable := #[], attributes := #[] }
def k19m1 : Method := { name := "<init>", desc := "(J)V", sig := { parameters := [.long], returnType := none }, accessFlags := 1, code := some k19c1 }
/-- java/lang/Long -/
def k19 : Class := { plain "java/lang/Long" (some 18) with
  accessFlags := 49
  interfaces := #[3, 5, 6]
  cf := some (fileOf pool19 1 #[.nestMembers #[235]] #[{ accessFlags := 9, nameIndex := 85, descriptorIndex := 229, attributes := #[] }, { accessFlags := 1, nameIndex := 59, descriptorIndex := 242, attributes := #[] }] 49 271 #[363, 365, 367] #[{ accessFlags := 25, nameIndex := 369, descriptorIndex := 276, attributes := #[] }, { accessFlags := 25, nameIndex := 371, descriptorIndex := 276, attributes := #[] }, { accessFlags := 25, nameIndex := 361, descriptorIndex := 362, attributes := #[] }, { accessFlags := 18, nameIndex := 275, descriptorIndex := 276, attributes := #[] }, { accessFlags := 25, nameIndex := 376, descriptorIndex := 377, attributes := #[] }, { accessFlags := 25, nameIndex := 379, descriptorIndex := 377, attributes := #[] }, { accessFlags := 26, nameIndex := 381, descriptorIndex := 276, attributes := #[] }])
  fields := #[{ name := "MIN_VALUE", type := .long, accessFlags := 25, slot := 0, constantValue := 0 }, { name := "MAX_VALUE", type := .long, accessFlags := 25, slot := 1, constantValue := 0 }, { name := "TYPE", type := (.object "java/lang/Class"), accessFlags := 25, slot := 2, constantValue := 0 }, { name := "value", type := .long, accessFlags := 18, slot := 0, constantValue := 0 }, { name := "SIZE", type := .int, accessFlags := 25, slot := 3, constantValue := 0 }, { name := "BYTES", type := .int, accessFlags := 25, slot := 4, constantValue := 0 }, { name := "serialVersionUID", type := .long, accessFlags := 26, slot := 5, constantValue := 0 }]
  methods := #[k19m0, k19m1]
  instanceTypes := #[.long]
  staticTypes := #[.long, .long, (.object "java/lang/Class"), .int, .int, .long]
  resolved := Array.replicate 524 none
  statics := none }

def pool20 : Array CpInfo := pool [(2, .class_ 4), (1, u "java/lang/Object"), (0, u "<init>"), (0, u "()V"), (0, .class_ 8), (0, u "java/lang/Long"), (7, .class_ 18), (1, u "java/lang/Long$LongCache"), (0, u "$assertionsDisabled"), (0, u "Z"), (8, u "archivedCache"), (0, u "[Ljava/lang/Long;"), (7, u "cache")] 24

def k20m0 : Method := { name := "<init>", desc := "()V", sig := { parameters := [], returnType := none }, accessFlags := 2, code := none }
/-- java/lang/Long$LongCache -/
def k20 : Class := { plain "java/lang/Long$LongCache" (some 0) with
  accessFlags := 48
  interfaces := #[]
  cf := some (fileOf pool20 16 #[.nestHost 7] #[{ accessFlags := 2, nameIndex := 5, descriptorIndex := 6, attributes := #[] }] 48 2 #[] #[{ accessFlags := 24, nameIndex := 38, descriptorIndex := 30, attributes := #[] }, { accessFlags := 8, nameIndex := 29, descriptorIndex := 30, attributes := #[] }, { accessFlags := 4120, nameIndex := 19, descriptorIndex := 20, attributes := #[] }])
  fields := #[{ name := "cache", type := (.array (.object "java/lang/Long")), accessFlags := 24, slot := 0, constantValue := 0 }, { name := "archivedCache", type := (.array (.object "java/lang/Long")), accessFlags := 8, slot := 1, constantValue := 0 }, { name := "$assertionsDisabled", type := .boolean, accessFlags := 4120, slot := 2, constantValue := 0 }]
  methods := #[k20m0]
  instanceTypes := #[]
  staticTypes := #[(.array (.object "java/lang/Long")), (.array (.object "java/lang/Long")), .boolean]
  resolved := Array.replicate 63 none
  statics := some 2 }

def pool21 : Array CpInfo := pool [(1, .class_ 2), (0, u "java/lang/Math"), (1, .class_ 6), (1, u "java/lang/Object"), (0, u "<init>"), (0, u "()V"), (89, .class_ 100), (1, u "java/lang/Math$RandomNumberGeneratorHolder"), (71, u "negativeZeroFloatBits"), (0, u "J"), (2, u "negativeZeroDoubleBits"), (21, u "max"), (46, u "$assertionsDisabled"), (0, u "Z"), (88, u "(II)I"), (2, u "twoToTheDoubleScaleDown"), (0, u "D"), (4, u "twoToTheDoubleScaleUp"), (9, u "E"), (3, u "PI"), (2, u "TAU"), (2, u "DEGREES_TO_RADIANS"), (0, u "RADIANS_TO_DEGREES")] 94

def k21m0 : Method := { name := "<init>", desc := "()V", sig := { parameters := [], returnType := none }, accessFlags := 2, code := none }
def k21c1 : Code := { maxStack := 2, maxLocals := 2, code := jdk_29_method_65_code, exceptionTable := #[], attributes := #[] }
def k21m1 : Method := { name := "max", desc := "(II)I", sig := { parameters := [.int, .int], returnType := some .int }, accessFlags := 9, code := some k21c1 }
/-- java/lang/Math -/
def k21 : Class := { plain "java/lang/Math" (some 0) with
  accessFlags := 49
  interfaces := #[]
  cf := some (fileOf pool21 1 #[.nestMembers #[98]] #[{ accessFlags := 2, nameIndex := 7, descriptorIndex := 8, attributes := #[] }, { accessFlags := 9, nameIndex := 198, descriptorIndex := 335, attributes := #[] }] 49 4 #[] #[{ accessFlags := 25, nameIndex := 354, descriptorIndex := 339, attributes := #[] }, { accessFlags := 25, nameIndex := 358, descriptorIndex := 339, attributes := #[] }, { accessFlags := 25, nameIndex := 361, descriptorIndex := 339, attributes := #[] }, { accessFlags := 26, nameIndex := 364, descriptorIndex := 339, attributes := #[] }, { accessFlags := 26, nameIndex := 365, descriptorIndex := 339, attributes := #[] }, { accessFlags := 26, nameIndex := 172, descriptorIndex := 173, attributes := #[] }, { accessFlags := 26, nameIndex := 176, descriptorIndex := 173, attributes := #[] }, { accessFlags := 8, nameIndex := 344, descriptorIndex := 339, attributes := #[] }, { accessFlags := 8, nameIndex := 338, descriptorIndex := 339, attributes := #[] }, { accessFlags := 4120, nameIndex := 245, descriptorIndex := 246, attributes := #[] }])
  fields := #[{ name := "E", type := .double, accessFlags := 25, slot := 0, constantValue := 0 }, { name := "PI", type := .double, accessFlags := 25, slot := 1, constantValue := 0 }, { name := "TAU", type := .double, accessFlags := 25, slot := 2, constantValue := 0 }, { name := "DEGREES_TO_RADIANS", type := .double, accessFlags := 26, slot := 3, constantValue := 0 }, { name := "RADIANS_TO_DEGREES", type := .double, accessFlags := 26, slot := 4, constantValue := 0 }, { name := "negativeZeroFloatBits", type := .long, accessFlags := 26, slot := 5, constantValue := 0 }, { name := "negativeZeroDoubleBits", type := .long, accessFlags := 26, slot := 6, constantValue := 0 }, { name := "twoToTheDoubleScaleUp", type := .double, accessFlags := 8, slot := 7, constantValue := 0 }, { name := "twoToTheDoubleScaleDown", type := .double, accessFlags := 8, slot := 8, constantValue := 0 }, { name := "$assertionsDisabled", type := .boolean, accessFlags := 4120, slot := 9, constantValue := 0 }]
  methods := #[k21m0, k21m1]
  instanceTypes := #[]
  staticTypes := #[.double, .double, .double, .double, .double, .long, .long, .double, .double, .boolean]
  resolved := Array.replicate 460 none
  statics := none }

def pool22 : Array CpInfo := pool [(2, .class_ 4), (1, u "java/lang/Object"), (3, .class_ 10), (1, u "com/example/lockstep/lockstep/history/Edn"), (0, u "text"), (0, u "Ljava/lang/String;"), (2, u "deadline"), (0, u "Lcom/example/lockstep/lockstep/history/Deadline;"), (14, u "position"), (0, u "I"), (16, .class_ 50), (0, u "java/lang/Long"), (0, .class_ 52), (0, u "com/example/lockstep/lockstep/history/Edn$BigInt"), (51, .class_ 105), (0, u "com/example/lockstep/lockstep/history/Edn$Open"), (1, .class_ 109), (1, u "com/example/lockstep/lockstep/history/Edn$Form"), (37, u "C"), (39, u "FORMS"), (0, u "[Lcom/example/lockstep/lockstep/history/Edn$Form;"), (9, .class_ 199), (0, u "com/example/lockstep/lockstep/history/Edn$Tagged"), (25, u "(Ljava/lang/Object;)Z"), (139, .class_ 366), (0, u "com/example/lockstep/lockstep/history/Edn$Symbol"), (28, .class_ 396), (0, u "com/example/lockstep/lockstep/history/Edn$Keyword"), (15, u "FLOAT"), (0, u "Ljava/util/regex/Pattern;"), (39, u "LONGEST_LONG"), (29, .class_ 484), (0, u "com/example/lockstep/lockstep/history/Edn$Decimal"), (14, .class_ 500), (0, u "com/example/lockstep/lockstep/history/Edn$SyntaxException"), (19, u "SYMBOL_PUNCTUATION"), (1, u "UNENDED_STRING"), (0, u "NO_CLOSING"), (1, u "SURELY_LONG"), (1, u "MAX_QUOTED_CHARACTERS"), (1, u "MAX_KEY_DEPTH"), (7, u "isInteger")] 55

def k22c0 : Code := { maxStack := 1, maxLocals := 1, code := prog_34_method_3_code, exceptionTable := #[], attributes := #[] }
def k22m0 : Method := { name := "isInteger", desc := "(Ljava/lang/Object;)Z", sig := { parameters := [(.object "java/lang/Object")], returnType := some .boolean }, accessFlags := 8, code := some k22c0 }
/-- com/example/lockstep/lockstep/history/Edn -/
def k22 : Class := { plain "com/example/lockstep/lockstep/history/Edn" (some 0) with
  accessFlags := 49
  interfaces := #[]
  cf := some (fileOf pool22 8 #[.nestMembers #[104, 107, 499, 483, 51, 198, 365, 395]] #[{ accessFlags := 8, nameIndex := 537, descriptorIndex := 225, attributes := #[] }] 49 2 #[] #[{ accessFlags := 26, nameIndex := 412, descriptorIndex := 413, attributes := #[] }, { accessFlags := 26, nameIndex := 520, descriptorIndex := 12, attributes := #[] }, { accessFlags := 26, nameIndex := 522, descriptorIndex := 12, attributes := #[] }, { accessFlags := 26, nameIndex := 523, descriptorIndex := 147, attributes := #[] }, { accessFlags := 26, nameIndex := 187, descriptorIndex := 188, attributes := #[] }, { accessFlags := 26, nameIndex := 453, descriptorIndex := 32, attributes := #[] }, { accessFlags := 26, nameIndex := 525, descriptorIndex := 32, attributes := #[] }, { accessFlags := 26, nameIndex := 527, descriptorIndex := 32, attributes := #[] }, { accessFlags := 24, nameIndex := 529, descriptorIndex := 32, attributes := #[] }, { accessFlags := 18, nameIndex := 11, descriptorIndex := 12, attributes := #[] }, { accessFlags := 18, nameIndex := 15, descriptorIndex := 16, attributes := #[] }, { accessFlags := 2, nameIndex := 31, descriptorIndex := 32, attributes := #[] }])
  fields := #[{ name := "FLOAT", type := (.object "java/util/regex/Pattern"), accessFlags := 26, slot := 0, constantValue := 0 }, { name := "SYMBOL_PUNCTUATION", type := (.object "java/lang/String"), accessFlags := 26, slot := 1, constantValue := 0 }, { name := "UNENDED_STRING", type := (.object "java/lang/String"), accessFlags := 26, slot := 2, constantValue := 0 }, { name := "NO_CLOSING", type := .char, accessFlags := 26, slot := 3, constantValue := 0 }, { name := "FORMS", type := (.array (.object "com/example/lockstep/lockstep/history/Edn$Form")), accessFlags := 26, slot := 4, constantValue := 0 }, { name := "LONGEST_LONG", type := .int, accessFlags := 26, slot := 5, constantValue := 0 }, { name := "SURELY_LONG", type := .int, accessFlags := 26, slot := 6, constantValue := 0 }, { name := "MAX_QUOTED_CHARACTERS", type := .int, accessFlags := 26, slot := 7, constantValue := 0 }, { name := "MAX_KEY_DEPTH", type := .int, accessFlags := 24, slot := 8, constantValue := 0 }, { name := "text", type := (.object "java/lang/String"), accessFlags := 18, slot := 0, constantValue := 0 }, { name := "deadline", type := (.object "com/example/lockstep/lockstep/history/Deadline"), accessFlags := 18, slot := 1, constantValue := 0 }, { name := "position", type := .int, accessFlags := 2, slot := 2, constantValue := 0 }]
  methods := #[k22m0]
  instanceTypes := #[(.object "java/lang/String"), (.object "com/example/lockstep/lockstep/history/Deadline"), .int]
  staticTypes := #[(.object "java/util/regex/Pattern"), (.object "java/lang/String"), (.object "java/lang/String"), .char, (.array (.object "com/example/lockstep/lockstep/history/Edn$Form")), .int, .int, .int, .int]
  resolved := Array.replicate 593 none
  statics := none }

def pool23 : Array CpInfo := pool [(1, .methodref 2 3), (0, .class_ 4), (0, .nameAndType 5 6), (0, u "java/lang/Object"), (0, u "<init>"), (0, u "()V"), (0, .class_ 8), (0, u "java/lang/Record")] 13

def k23c0 : Code := { maxStack := 1, maxLocals := 1, code := jdk_30_method_1_code, exceptionTable := #[], attributes := #[] }
def k23m0 : Method := { name := "<init>", desc := "()V", sig := { parameters := [], returnType := none }, accessFlags := 4, code := some k23c0 }
/-- java/lang/Record -/
def k23 : Class := { plain "java/lang/Record" (some 0) with
  accessFlags := 1057
  interfaces := #[]
  cf := some (fileOf pool23 7 #[] #[{ accessFlags := 4, nameIndex := 5, descriptorIndex := 6, attributes := #[] }] 1057 2 #[] #[])
  fields := #[]
  methods := #[k23m0]
  instanceTypes := #[]
  staticTypes := #[]
  resolved := Array.replicate 22 none
  statics := none }

def pool24 : Array CpInfo := pool [(1, .methodref 2 3), (0, .class_ 4), (0, .nameAndType 5 6), (0, u "java/lang/Record"), (0, u "<init>"), (0, u "()V"), (0, .fieldref 8 9), (0, .class_ 10), (0, .nameAndType 11 12), (0, u "com/example/lockstep/lockstep/history/Edn$BigInt"), (0, u "digits"), (0, u "Ljava/lang/String;"), (8, u "(Ljava/lang/String;)V"), (10, .class_ 33), (0, u "com/example/lockstep/lockstep/history/Edn")] 18

def k24c0 : Code := { maxStack := 2, maxLocals := 2, code := prog_35_method_1_code, exceptionTable := #[], attributes := #[] }
def k24m0 : Method := { name := "<init>", desc := "(Ljava/lang/String;)V", sig := { parameters := [(.object "java/lang/String")], returnType := none }, accessFlags := 0, code := some k24c0 }
/-- com/example/lockstep/lockstep/history/Edn$BigInt -/
def k24 : Class := { plain "com/example/lockstep/lockstep/history/Edn$BigInt" (some 23) with
  accessFlags := 48
  interfaces := #[]
  cf := some (fileOf pool24 8 #[.nestHost 32] #[{ accessFlags := 0, nameIndex := 5, descriptorIndex := 21, attributes := #[] }] 48 2 #[] #[{ accessFlags := 18, nameIndex := 11, descriptorIndex := 12, attributes := #[] }])
  fields := #[{ name := "digits", type := (.object "java/lang/String"), accessFlags := 18, slot := 0, constantValue := 0 }]
  methods := #[k24m0]
  instanceTypes := #[(.object "java/lang/String")]
  staticTypes := #[]
  resolved := Array.replicate 52 none
  statics := none }

def pool25 : Array CpInfo := pool [(1, .methodref 2 3), (0, .class_ 4), (0, .nameAndType 5 6), (0, u "java/lang/Record"), (0, u "<init>"), (0, u "()V"), (0, .fieldref 8 9), (0, .class_ 10), (0, .nameAndType 11 12), (0, u "com/example/lockstep/lockstep/history/Edn$Decimal"), (0, u "unscaled"), (0, u "Ljava/lang/String;"), (0, .fieldref 8 14), (0, .nameAndType 15 16), (0, u "scale"), (0, u "J"), (12, u "(Ljava/lang/String;J)V"), (11, .class_ 42), (0, u "com/example/lockstep/lockstep/history/Edn")] 28

def k25c0 : Code := { maxStack := 3, maxLocals := 4, code := prog_36_method_1_code, exceptionTable := #[], attributes := #[] }
def k25m0 : Method := { name := "<init>", desc := "(Ljava/lang/String;J)V", sig := { parameters := [(.object "java/lang/String"), .long], returnType := none }, accessFlags := 0, code := some k25c0 }
/-- com/example/lockstep/lockstep/history/Edn$Decimal -/
def k25 : Class := { plain "com/example/lockstep/lockstep/history/Edn$Decimal" (some 23) with
  accessFlags := 48
  interfaces := #[]
  cf := some (fileOf pool25 8 #[.nestHost 41] #[{ accessFlags := 0, nameIndex := 5, descriptorIndex := 29, attributes := #[] }] 48 2 #[] #[{ accessFlags := 18, nameIndex := 11, descriptorIndex := 12, attributes := #[] }, { accessFlags := 18, nameIndex := 15, descriptorIndex := 16, attributes := #[] }])
  fields := #[{ name := "unscaled", type := (.object "java/lang/String"), accessFlags := 18, slot := 0, constantValue := 0 }, { name := "scale", type := .long, accessFlags := 18, slot := 1, constantValue := 0 }]
  methods := #[k25m0]
  instanceTypes := #[(.object "java/lang/String"), .long]
  staticTypes := #[]
  resolved := Array.replicate 71 none
  statics := none }

def pool26 : Array CpInfo := pool [(4, .class_ 6), (1, u "java/lang/Object"), (0, u "<init>"), (0, u "()V"), (5, .class_ 16), (1, u "java/lang/StringLatin1"), (104, u "$assertionsDisabled"), (0, u "Z"), (98, .class_ 223), (1, u "java/lang/StringLatin1$LinesSpliterator"), (166, .class_ 391), (0, u "java/lang/StringLatin1$CharsSpliterator")] 3

def k26m0 : Method := { name := "<init>", desc := "()V", sig := { parameters := [], returnType := none }, accessFlags := 0, code := none }
/-- java/lang/StringLatin1 -/
def k26 : Class := { plain "java/lang/StringLatin1" (some 0) with
  accessFlags := 48
  interfaces := #[]
  cf := some (fileOf pool26 14 #[.nestMembers #[390, 221]] #[{ accessFlags := 0, nameIndex := 7, descriptorIndex := 8, attributes := #[] }] 48 4 #[] #[{ accessFlags := 4120, nameIndex := 121, descriptorIndex := 122, attributes := #[] }])
  fields := #[{ name := "$assertionsDisabled", type := .boolean, accessFlags := 4120, slot := 0, constantValue := 0 }]
  methods := #[k26m0]
  instanceTypes := #[]
  staticTypes := #[.boolean]
  resolved := Array.replicate 395 none
  statics := none }

def pool27 : Array CpInfo := pool [(2, .class_ 4), (1, u "java/lang/Object"), (0, u "<init>"), (0, u "()V"), (17, .class_ 26), (1, u "jdk/internal/util/Preconditions"), (28, .class_ 56), (0, u "jdk/internal/util/Preconditions$4"), (57, .class_ 115), (0, u "jdk/internal/util/Preconditions$1"), (7, u "SIOOBE_FORMATTER"), (0, u "Ljava/util/function/BiFunction;"), (0, .class_ 126), (0, u "jdk/internal/util/Preconditions$2"), (3, u "AIOOBE_FORMATTER"), (0, .class_ 132), (0, u "jdk/internal/util/Preconditions$3"), (3, u "IOOBE_FORMATTER")] 57

def k27m0 : Method := { name := "<init>", desc := "()V", sig := { parameters := [], returnType := none }, accessFlags := 1, code := none }
/-- jdk/internal/util/Preconditions -/
def k27 : Class := { plain "jdk/internal/util/Preconditions" (some 0) with
  accessFlags := 33
  interfaces := #[]
  cf := some (fileOf pool27 24 #[.nestMembers #[55, 131, 125, 114]] #[{ accessFlags := 1, nameIndex := 5, descriptorIndex := 6, attributes := #[] }] 33 2 #[] #[{ accessFlags := 25, nameIndex := 123, descriptorIndex := 124, attributes := #[] }, { accessFlags := 25, nameIndex := 130, descriptorIndex := 124, attributes := #[] }, { accessFlags := 25, nameIndex := 136, descriptorIndex := 124, attributes := #[] }])
  fields := #[{ name := "SIOOBE_FORMATTER", type := (.object "java/util/function/BiFunction"), accessFlags := 25, slot := 0, constantValue := 0 }, { name := "AIOOBE_FORMATTER", type := (.object "java/util/function/BiFunction"), accessFlags := 25, slot := 1, constantValue := 0 }, { name := "IOOBE_FORMATTER", type := (.object "java/util/function/BiFunction"), accessFlags := 25, slot := 2, constantValue := 0 }]
  methods := #[k27m0]
  instanceTypes := #[]
  staticTypes := #[(.object "java/util/function/BiFunction"), (.object "java/util/function/BiFunction"), (.object "java/util/function/BiFunction")]
  resolved := Array.replicate 194 none
  statics := some 3 }

def pool28 : Array CpInfo := pool [(9, u "<init>"), (6, .class_ 18), (1, u "java/lang/Object"), (0, u "()V"), (1, .class_ 23), (1, u "jdk/internal/util/ArraysSupport"), (0, u "LOG2_ARRAY_LONG_INDEX_SCALE"), (0, u "I"), (2, u "U"), (0, u "Ljdk/internal/misc/Unsafe;"), (8, u "BIG_ENDIAN"), (0, u "Z"), (8, u "LOG2_BYTE_BIT_SIZE"), (4, u "LOG2_ARRAY_INT_INDEX_SCALE"), (54, u "JLA"), (0, u "Ljdk/internal/access/JavaLangAccess;"), (11, u "LOG2_ARRAY_BOOLEAN_INDEX_SCALE"), (9, u "LOG2_ARRAY_BYTE_INDEX_SCALE"), (5, u "LOG2_ARRAY_CHAR_INDEX_SCALE"), (5, u "LOG2_ARRAY_SHORT_INDEX_SCALE"), (18, u "LOG2_ARRAY_FLOAT_INDEX_SCALE"), (24, u "LOG2_ARRAY_DOUBLE_INDEX_SCALE"), (89, u "T_BOOLEAN"), (2, u "T_CHAR"), (1, u "T_FLOAT"), (1, u "T_DOUBLE"), (1, u "T_BYTE"), (1, u "T_SHORT"), (1, u "T_INT"), (1, u "T_LONG"), (1, u "SOFT_MAX_ARRAY_LENGTH")] 83

def k28m0 : Method := { name := "<init>", desc := "()V", sig := { parameters := [], returnType := none }, accessFlags := 2, code := none }
/-- jdk/internal/util/ArraysSupport -/
def k28 : Class := { plain "jdk/internal/util/ArraysSupport" (some 0) with
  accessFlags := 33
  interfaces := #[]
  cf := some (fileOf pool28 21 #[] #[{ accessFlags := 2, nameIndex := 9, descriptorIndex := 19, attributes := #[] }] 33 16 #[] #[{ accessFlags := 24, nameIndex := 28, descriptorIndex := 29, attributes := #[] }, { accessFlags := 26, nameIndex := 38, descriptorIndex := 39, attributes := #[] }, { accessFlags := 25, nameIndex := 121, descriptorIndex := 25, attributes := #[] }, { accessFlags := 25, nameIndex := 131, descriptorIndex := 25, attributes := #[] }, { accessFlags := 25, nameIndex := 137, descriptorIndex := 25, attributes := #[] }, { accessFlags := 25, nameIndex := 143, descriptorIndex := 25, attributes := #[] }, { accessFlags := 25, nameIndex := 53, descriptorIndex := 25, attributes := #[] }, { accessFlags := 25, nameIndex := 24, descriptorIndex := 25, attributes := #[] }, { accessFlags := 25, nameIndex := 162, descriptorIndex := 25, attributes := #[] }, { accessFlags := 25, nameIndex := 187, descriptorIndex := 25, attributes := #[] }, { accessFlags := 26, nameIndex := 48, descriptorIndex := 25, attributes := #[] }, { accessFlags := 25, nameIndex := 277, descriptorIndex := 25, attributes := #[] }, { accessFlags := 25, nameIndex := 280, descriptorIndex := 25, attributes := #[] }, { accessFlags := 25, nameIndex := 282, descriptorIndex := 25, attributes := #[] }, { accessFlags := 25, nameIndex := 284, descriptorIndex := 25, attributes := #[] }, { accessFlags := 25, nameIndex := 286, descriptorIndex := 25, attributes := #[] }, { accessFlags := 25, nameIndex := 288, descriptorIndex := 25, attributes := #[] }, { accessFlags := 25, nameIndex := 290, descriptorIndex := 25, attributes := #[] }, { accessFlags := 25, nameIndex := 292, descriptorIndex := 25, attributes := #[] }, { accessFlags := 26, nameIndex := 108, descriptorIndex := 109, attributes := #[] }, { accessFlags := 25, nameIndex := 294, descriptorIndex := 25, attributes := #[] }])
  fields := #[{ name := "U", type := (.object "jdk/internal/misc/Unsafe"), accessFlags := 24, slot := 0, constantValue := 0 }, { name := "BIG_ENDIAN", type := .boolean, accessFlags := 26, slot := 1, constantValue := 0 }, { name := "LOG2_ARRAY_BOOLEAN_INDEX_SCALE", type := .int, accessFlags := 25, slot := 2, constantValue := 0 }, { name := "LOG2_ARRAY_BYTE_INDEX_SCALE", type := .int, accessFlags := 25, slot := 3, constantValue := 0 }, { name := "LOG2_ARRAY_CHAR_INDEX_SCALE", type := .int, accessFlags := 25, slot := 4, constantValue := 0 }, { name := "LOG2_ARRAY_SHORT_INDEX_SCALE", type := .int, accessFlags := 25, slot := 5, constantValue := 0 }, { name := "LOG2_ARRAY_INT_INDEX_SCALE", type := .int, accessFlags := 25, slot := 6, constantValue := 0 }, { name := "LOG2_ARRAY_LONG_INDEX_SCALE", type := .int, accessFlags := 25, slot := 7, constantValue := 0 }, { name := "LOG2_ARRAY_FLOAT_INDEX_SCALE", type := .int, accessFlags := 25, slot := 8, constantValue := 0 }, { name := "LOG2_ARRAY_DOUBLE_INDEX_SCALE", type := .int, accessFlags := 25, slot := 9, constantValue := 0 }, { name := "LOG2_BYTE_BIT_SIZE", type := .int, accessFlags := 26, slot := 10, constantValue := 0 }, { name := "T_BOOLEAN", type := .int, accessFlags := 25, slot := 11, constantValue := 0 }, { name := "T_CHAR", type := .int, accessFlags := 25, slot := 12, constantValue := 0 }, { name := "T_FLOAT", type := .int, accessFlags := 25, slot := 13, constantValue := 0 }, { name := "T_DOUBLE", type := .int, accessFlags := 25, slot := 14, constantValue := 0 }, { name := "T_BYTE", type := .int, accessFlags := 25, slot := 15, constantValue := 0 }, { name := "T_SHORT", type := .int, accessFlags := 25, slot := 16, constantValue := 0 }, { name := "T_INT", type := .int, accessFlags := 25, slot := 17, constantValue := 0 }, { name := "T_LONG", type := .int, accessFlags := 25, slot := 18, constantValue := 0 }, { name := "JLA", type := (.object "jdk/internal/access/JavaLangAccess"), accessFlags := 26, slot := 19, constantValue := 0 }, { name := "SOFT_MAX_ARRAY_LENGTH", type := .int, accessFlags := 25, slot := 20, constantValue := 0 }]
  methods := #[k28m0]
  instanceTypes := #[]
  staticTypes := #[(.object "jdk/internal/misc/Unsafe"), .boolean, .int, .int, .int, .int, .int, .int, .int, .int, .int, .int, .int, .int, .int, .int, .int, .int, .int, (.object "jdk/internal/access/JavaLangAccess"), .int]
  resolved := Array.replicate 378 none
  statics := none }

/-- the primitive byte -/
def k29 : Class := { plain "byte" none with kind := .primitive 'B', accessFlags := 0x411 }
/-- [B -/
def k30 : Class := { plain "[B" (some 0) with kind := .array 29 .byte, interfaces := #[16, 2], accessFlags := 1041 }

/-- the primitive char -/
def k31 : Class := { plain "char" none with kind := .primitive 'C', accessFlags := 0x411 }
/-- [C -/
def k32 : Class := { plain "[C" (some 0) with kind := .array 31 .char, interfaces := #[16, 2], accessFlags := 1041 }

/-- the primitive int -/
def k33 : Class := { plain "int" none with kind := .primitive 'I', accessFlags := 0x411 }
/-- [I -/
def k34 : Class := { plain "[I" (some 0) with kind := .array 33 .int, interfaces := #[16, 2], accessFlags := 1041 }

/-- [Ljava/lang/Long; -/
def k35 : Class := { plain "[Ljava/lang/Long;" (some 0) with kind := .array 19 (.object "java/lang/Long"), interfaces := #[16, 2], accessFlags := 1041 }

/-- [Ljava/lang/Object; -/
def k36 : Class := { plain "[Ljava/lang/Object;" (some 0) with kind := .array 0 (.object "java/lang/Object"), interfaces := #[16, 2], accessFlags := 1041 }

def heap : Heap := #[{ cls := 7, slots := #[.long 0, .int 1, .null, .int 0, .null, .int 0, .int 0], vm := .statics 7 },
  { cls := 17, slots := #[.long 0, .int 0, .ref 261, .ref 262], vm := .statics 17 },
  { cls := 20, slots := #[.ref 4, .null, .int 0], vm := .statics 20 },
  { cls := 27, slots := #[.null, .null, .null], vm := .statics 27 },
  { cls := 35, slots := #[.ref 5, .ref 6, .ref 7, .ref 8, .ref 9, .ref 10, .ref 11, .ref 12, .ref 13, .ref 14, .ref 15, .ref 16, .ref 17, .ref 18, .ref 19, .ref 20, .ref 21, .ref 22, .ref 23, .ref 24, .ref 25, .ref 26, .ref 27, .ref 28, .ref 29, .ref 30, .ref 31, .ref 32, .ref 33, .ref 34, .ref 35, .ref 36, .ref 37, .ref 38, .ref 39, .ref 40, .ref 41, .ref 42, .ref 43, .ref 44, .ref 45, .ref 46, .ref 47, .ref 48, .ref 49, .ref 50, .ref 51, .ref 52, .ref 53, .ref 54, .ref 55, .ref 56, .ref 57, .ref 58, .ref 59, .ref 60, .ref 61, .ref 62, .ref 63, .ref 64, .ref 65, .ref 66, .ref 67, .ref 68, .ref 69, .ref 70, .ref 71, .ref 72, .ref 73, .ref 74, .ref 75, .ref 76, .ref 77, .ref 78, .ref 79, .ref 80, .ref 81, .ref 82, .ref 83, .ref 84, .ref 85, .ref 86, .ref 87, .ref 88, .ref 89, .ref 90, .ref 91, .ref 92, .ref 93, .ref 94, .ref 95, .ref 96, .ref 97, .ref 98, .ref 99, .ref 100, .ref 101, .ref 102, .ref 103, .ref 104, .ref 105, .ref 106, .ref 107, .ref 108, .ref 109, .ref 110, .ref 111, .ref 112, .ref 113, .ref 114, .ref 115, .ref 116, .ref 117, .ref 118, .ref 119, .ref 120, .ref 121, .ref 122, .ref 123, .ref 124, .ref 125, .ref 126, .ref 127, .ref 128, .ref 129, .ref 130, .ref 131, .ref 132, .ref 133, .ref 134, .ref 135, .ref 136, .ref 137, .ref 138, .ref 139, .ref 140, .ref 141, .ref 142, .ref 143, .ref 144, .ref 145, .ref 146, .ref 147, .ref 148, .ref 149, .ref 150, .ref 151, .ref 152, .ref 153, .ref 154, .ref 155, .ref 156, .ref 157, .ref 158, .ref 159, .ref 160, .ref 161, .ref 162, .ref 163, .ref 164, .ref 165, .ref 166, .ref 167, .ref 168, .ref 169, .ref 170, .ref 171, .ref 172, .ref 173, .ref 174, .ref 175, .ref 176, .ref 177, .ref 178, .ref 179, .ref 180, .ref 181, .ref 182, .ref 183, .ref 184, .ref 185, .ref 186, .ref 187, .ref 188, .ref 189, .ref 190, .ref 191, .ref 192, .ref 193, .ref 194, .ref 195, .ref 196, .ref 197, .ref 198, .ref 199, .ref 200, .ref 201, .ref 202, .ref 203, .ref 204, .ref 205, .ref 206, .ref 207, .ref 208, .ref 209, .ref 210, .ref 211, .ref 212, .ref 213, .ref 214, .ref 215, .ref 216, .ref 217, .ref 218, .ref 219, .ref 220, .ref 221, .ref 222, .ref 223, .ref 224, .ref 225, .ref 226, .ref 227, .ref 228, .ref 229, .ref 230, .ref 231, .ref 232, .ref 233, .ref 234, .ref 235, .ref 236, .ref 237, .ref 238, .ref 239, .ref 240, .ref 241, .ref 242, .ref 243, .ref 244, .ref 245, .ref 246, .ref 247, .ref 248, .ref 249, .ref 250, .ref 251, .ref 252, .ref 253, .ref 254, .ref 255, .ref 256, .ref 257, .ref 258, .ref 259, .ref 260], vm := .none },
  { cls := 19, slots := #[.long (-128)], vm := .none },
  { cls := 19, slots := #[.long (-127)], vm := .none },
  { cls := 19, slots := #[.long (-126)], vm := .none },
  { cls := 19, slots := #[.long (-125)], vm := .none },
  { cls := 19, slots := #[.long (-124)], vm := .none },
  { cls := 19, slots := #[.long (-123)], vm := .none },
  { cls := 19, slots := #[.long (-122)], vm := .none },
  { cls := 19, slots := #[.long (-121)], vm := .none },
  { cls := 19, slots := #[.long (-120)], vm := .none },
  { cls := 19, slots := #[.long (-119)], vm := .none },
  { cls := 19, slots := #[.long (-118)], vm := .none },
  { cls := 19, slots := #[.long (-117)], vm := .none },
  { cls := 19, slots := #[.long (-116)], vm := .none },
  { cls := 19, slots := #[.long (-115)], vm := .none },
  { cls := 19, slots := #[.long (-114)], vm := .none },
  { cls := 19, slots := #[.long (-113)], vm := .none },
  { cls := 19, slots := #[.long (-112)], vm := .none },
  { cls := 19, slots := #[.long (-111)], vm := .none },
  { cls := 19, slots := #[.long (-110)], vm := .none },
  { cls := 19, slots := #[.long (-109)], vm := .none },
  { cls := 19, slots := #[.long (-108)], vm := .none },
  { cls := 19, slots := #[.long (-107)], vm := .none },
  { cls := 19, slots := #[.long (-106)], vm := .none },
  { cls := 19, slots := #[.long (-105)], vm := .none },
  { cls := 19, slots := #[.long (-104)], vm := .none },
  { cls := 19, slots := #[.long (-103)], vm := .none },
  { cls := 19, slots := #[.long (-102)], vm := .none },
  { cls := 19, slots := #[.long (-101)], vm := .none },
  { cls := 19, slots := #[.long (-100)], vm := .none },
  { cls := 19, slots := #[.long (-99)], vm := .none },
  { cls := 19, slots := #[.long (-98)], vm := .none },
  { cls := 19, slots := #[.long (-97)], vm := .none },
  { cls := 19, slots := #[.long (-96)], vm := .none },
  { cls := 19, slots := #[.long (-95)], vm := .none },
  { cls := 19, slots := #[.long (-94)], vm := .none },
  { cls := 19, slots := #[.long (-93)], vm := .none },
  { cls := 19, slots := #[.long (-92)], vm := .none },
  { cls := 19, slots := #[.long (-91)], vm := .none },
  { cls := 19, slots := #[.long (-90)], vm := .none },
  { cls := 19, slots := #[.long (-89)], vm := .none },
  { cls := 19, slots := #[.long (-88)], vm := .none },
  { cls := 19, slots := #[.long (-87)], vm := .none },
  { cls := 19, slots := #[.long (-86)], vm := .none },
  { cls := 19, slots := #[.long (-85)], vm := .none },
  { cls := 19, slots := #[.long (-84)], vm := .none },
  { cls := 19, slots := #[.long (-83)], vm := .none },
  { cls := 19, slots := #[.long (-82)], vm := .none },
  { cls := 19, slots := #[.long (-81)], vm := .none },
  { cls := 19, slots := #[.long (-80)], vm := .none },
  { cls := 19, slots := #[.long (-79)], vm := .none },
  { cls := 19, slots := #[.long (-78)], vm := .none },
  { cls := 19, slots := #[.long (-77)], vm := .none },
  { cls := 19, slots := #[.long (-76)], vm := .none },
  { cls := 19, slots := #[.long (-75)], vm := .none },
  { cls := 19, slots := #[.long (-74)], vm := .none },
  { cls := 19, slots := #[.long (-73)], vm := .none },
  { cls := 19, slots := #[.long (-72)], vm := .none },
  { cls := 19, slots := #[.long (-71)], vm := .none },
  { cls := 19, slots := #[.long (-70)], vm := .none },
  { cls := 19, slots := #[.long (-69)], vm := .none },
  { cls := 19, slots := #[.long (-68)], vm := .none },
  { cls := 19, slots := #[.long (-67)], vm := .none },
  { cls := 19, slots := #[.long (-66)], vm := .none },
  { cls := 19, slots := #[.long (-65)], vm := .none },
  { cls := 19, slots := #[.long (-64)], vm := .none },
  { cls := 19, slots := #[.long (-63)], vm := .none },
  { cls := 19, slots := #[.long (-62)], vm := .none },
  { cls := 19, slots := #[.long (-61)], vm := .none },
  { cls := 19, slots := #[.long (-60)], vm := .none },
  { cls := 19, slots := #[.long (-59)], vm := .none },
  { cls := 19, slots := #[.long (-58)], vm := .none },
  { cls := 19, slots := #[.long (-57)], vm := .none },
  { cls := 19, slots := #[.long (-56)], vm := .none },
  { cls := 19, slots := #[.long (-55)], vm := .none },
  { cls := 19, slots := #[.long (-54)], vm := .none },
  { cls := 19, slots := #[.long (-53)], vm := .none },
  { cls := 19, slots := #[.long (-52)], vm := .none },
  { cls := 19, slots := #[.long (-51)], vm := .none },
  { cls := 19, slots := #[.long (-50)], vm := .none },
  { cls := 19, slots := #[.long (-49)], vm := .none },
  { cls := 19, slots := #[.long (-48)], vm := .none },
  { cls := 19, slots := #[.long (-47)], vm := .none },
  { cls := 19, slots := #[.long (-46)], vm := .none },
  { cls := 19, slots := #[.long (-45)], vm := .none },
  { cls := 19, slots := #[.long (-44)], vm := .none },
  { cls := 19, slots := #[.long (-43)], vm := .none },
  { cls := 19, slots := #[.long (-42)], vm := .none },
  { cls := 19, slots := #[.long (-41)], vm := .none },
  { cls := 19, slots := #[.long (-40)], vm := .none },
  { cls := 19, slots := #[.long (-39)], vm := .none },
  { cls := 19, slots := #[.long (-38)], vm := .none },
  { cls := 19, slots := #[.long (-37)], vm := .none },
  { cls := 19, slots := #[.long (-36)], vm := .none },
  { cls := 19, slots := #[.long (-35)], vm := .none },
  { cls := 19, slots := #[.long (-34)], vm := .none },
  { cls := 19, slots := #[.long (-33)], vm := .none },
  { cls := 19, slots := #[.long (-32)], vm := .none },
  { cls := 19, slots := #[.long (-31)], vm := .none },
  { cls := 19, slots := #[.long (-30)], vm := .none },
  { cls := 19, slots := #[.long (-29)], vm := .none },
  { cls := 19, slots := #[.long (-28)], vm := .none },
  { cls := 19, slots := #[.long (-27)], vm := .none },
  { cls := 19, slots := #[.long (-26)], vm := .none },
  { cls := 19, slots := #[.long (-25)], vm := .none },
  { cls := 19, slots := #[.long (-24)], vm := .none },
  { cls := 19, slots := #[.long (-23)], vm := .none },
  { cls := 19, slots := #[.long (-22)], vm := .none },
  { cls := 19, slots := #[.long (-21)], vm := .none },
  { cls := 19, slots := #[.long (-20)], vm := .none },
  { cls := 19, slots := #[.long (-19)], vm := .none },
  { cls := 19, slots := #[.long (-18)], vm := .none },
  { cls := 19, slots := #[.long (-17)], vm := .none },
  { cls := 19, slots := #[.long (-16)], vm := .none },
  { cls := 19, slots := #[.long (-15)], vm := .none },
  { cls := 19, slots := #[.long (-14)], vm := .none },
  { cls := 19, slots := #[.long (-13)], vm := .none },
  { cls := 19, slots := #[.long (-12)], vm := .none },
  { cls := 19, slots := #[.long (-11)], vm := .none },
  { cls := 19, slots := #[.long (-10)], vm := .none },
  { cls := 19, slots := #[.long (-9)], vm := .none },
  { cls := 19, slots := #[.long (-8)], vm := .none },
  { cls := 19, slots := #[.long (-7)], vm := .none },
  { cls := 19, slots := #[.long (-6)], vm := .none },
  { cls := 19, slots := #[.long (-5)], vm := .none },
  { cls := 19, slots := #[.long (-4)], vm := .none },
  { cls := 19, slots := #[.long (-3)], vm := .none },
  { cls := 19, slots := #[.long (-2)], vm := .none },
  { cls := 19, slots := #[.long (-1)], vm := .none },
  { cls := 19, slots := #[.long (0)], vm := .none },
  { cls := 19, slots := #[.long (1)], vm := .none },
  { cls := 19, slots := #[.long (2)], vm := .none },
  { cls := 19, slots := #[.long (3)], vm := .none },
  { cls := 19, slots := #[.long (4)], vm := .none },
  { cls := 19, slots := #[.long (5)], vm := .none },
  { cls := 19, slots := #[.long (6)], vm := .none },
  { cls := 19, slots := #[.long (7)], vm := .none },
  { cls := 19, slots := #[.long (8)], vm := .none },
  { cls := 19, slots := #[.long (9)], vm := .none },
  { cls := 19, slots := #[.long (10)], vm := .none },
  { cls := 19, slots := #[.long (11)], vm := .none },
  { cls := 19, slots := #[.long (12)], vm := .none },
  { cls := 19, slots := #[.long (13)], vm := .none },
  { cls := 19, slots := #[.long (14)], vm := .none },
  { cls := 19, slots := #[.long (15)], vm := .none },
  { cls := 19, slots := #[.long (16)], vm := .none },
  { cls := 19, slots := #[.long (17)], vm := .none },
  { cls := 19, slots := #[.long (18)], vm := .none },
  { cls := 19, slots := #[.long (19)], vm := .none },
  { cls := 19, slots := #[.long (20)], vm := .none },
  { cls := 19, slots := #[.long (21)], vm := .none },
  { cls := 19, slots := #[.long (22)], vm := .none },
  { cls := 19, slots := #[.long (23)], vm := .none },
  { cls := 19, slots := #[.long (24)], vm := .none },
  { cls := 19, slots := #[.long (25)], vm := .none },
  { cls := 19, slots := #[.long (26)], vm := .none },
  { cls := 19, slots := #[.long (27)], vm := .none },
  { cls := 19, slots := #[.long (28)], vm := .none },
  { cls := 19, slots := #[.long (29)], vm := .none },
  { cls := 19, slots := #[.long (30)], vm := .none },
  { cls := 19, slots := #[.long (31)], vm := .none },
  { cls := 19, slots := #[.long (32)], vm := .none },
  { cls := 19, slots := #[.long (33)], vm := .none },
  { cls := 19, slots := #[.long (34)], vm := .none },
  { cls := 19, slots := #[.long (35)], vm := .none },
  { cls := 19, slots := #[.long (36)], vm := .none },
  { cls := 19, slots := #[.long (37)], vm := .none },
  { cls := 19, slots := #[.long (38)], vm := .none },
  { cls := 19, slots := #[.long (39)], vm := .none },
  { cls := 19, slots := #[.long (40)], vm := .none },
  { cls := 19, slots := #[.long (41)], vm := .none },
  { cls := 19, slots := #[.long (42)], vm := .none },
  { cls := 19, slots := #[.long (43)], vm := .none },
  { cls := 19, slots := #[.long (44)], vm := .none },
  { cls := 19, slots := #[.long (45)], vm := .none },
  { cls := 19, slots := #[.long (46)], vm := .none },
  { cls := 19, slots := #[.long (47)], vm := .none },
  { cls := 19, slots := #[.long (48)], vm := .none },
  { cls := 19, slots := #[.long (49)], vm := .none },
  { cls := 19, slots := #[.long (50)], vm := .none },
  { cls := 19, slots := #[.long (51)], vm := .none },
  { cls := 19, slots := #[.long (52)], vm := .none },
  { cls := 19, slots := #[.long (53)], vm := .none },
  { cls := 19, slots := #[.long (54)], vm := .none },
  { cls := 19, slots := #[.long (55)], vm := .none },
  { cls := 19, slots := #[.long (56)], vm := .none },
  { cls := 19, slots := #[.long (57)], vm := .none },
  { cls := 19, slots := #[.long (58)], vm := .none },
  { cls := 19, slots := #[.long (59)], vm := .none },
  { cls := 19, slots := #[.long (60)], vm := .none },
  { cls := 19, slots := #[.long (61)], vm := .none },
  { cls := 19, slots := #[.long (62)], vm := .none },
  { cls := 19, slots := #[.long (63)], vm := .none },
  { cls := 19, slots := #[.long (64)], vm := .none },
  { cls := 19, slots := #[.long (65)], vm := .none },
  { cls := 19, slots := #[.long (66)], vm := .none },
  { cls := 19, slots := #[.long (67)], vm := .none },
  { cls := 19, slots := #[.long (68)], vm := .none },
  { cls := 19, slots := #[.long (69)], vm := .none },
  { cls := 19, slots := #[.long (70)], vm := .none },
  { cls := 19, slots := #[.long (71)], vm := .none },
  { cls := 19, slots := #[.long (72)], vm := .none },
  { cls := 19, slots := #[.long (73)], vm := .none },
  { cls := 19, slots := #[.long (74)], vm := .none },
  { cls := 19, slots := #[.long (75)], vm := .none },
  { cls := 19, slots := #[.long (76)], vm := .none },
  { cls := 19, slots := #[.long (77)], vm := .none },
  { cls := 19, slots := #[.long (78)], vm := .none },
  { cls := 19, slots := #[.long (79)], vm := .none },
  { cls := 19, slots := #[.long (80)], vm := .none },
  { cls := 19, slots := #[.long (81)], vm := .none },
  { cls := 19, slots := #[.long (82)], vm := .none },
  { cls := 19, slots := #[.long (83)], vm := .none },
  { cls := 19, slots := #[.long (84)], vm := .none },
  { cls := 19, slots := #[.long (85)], vm := .none },
  { cls := 19, slots := #[.long (86)], vm := .none },
  { cls := 19, slots := #[.long (87)], vm := .none },
  { cls := 19, slots := #[.long (88)], vm := .none },
  { cls := 19, slots := #[.long (89)], vm := .none },
  { cls := 19, slots := #[.long (90)], vm := .none },
  { cls := 19, slots := #[.long (91)], vm := .none },
  { cls := 19, slots := #[.long (92)], vm := .none },
  { cls := 19, slots := #[.long (93)], vm := .none },
  { cls := 19, slots := #[.long (94)], vm := .none },
  { cls := 19, slots := #[.long (95)], vm := .none },
  { cls := 19, slots := #[.long (96)], vm := .none },
  { cls := 19, slots := #[.long (97)], vm := .none },
  { cls := 19, slots := #[.long (98)], vm := .none },
  { cls := 19, slots := #[.long (99)], vm := .none },
  { cls := 19, slots := #[.long (100)], vm := .none },
  { cls := 19, slots := #[.long (101)], vm := .none },
  { cls := 19, slots := #[.long (102)], vm := .none },
  { cls := 19, slots := #[.long (103)], vm := .none },
  { cls := 19, slots := #[.long (104)], vm := .none },
  { cls := 19, slots := #[.long (105)], vm := .none },
  { cls := 19, slots := #[.long (106)], vm := .none },
  { cls := 19, slots := #[.long (107)], vm := .none },
  { cls := 19, slots := #[.long (108)], vm := .none },
  { cls := 19, slots := #[.long (109)], vm := .none },
  { cls := 19, slots := #[.long (110)], vm := .none },
  { cls := 19, slots := #[.long (111)], vm := .none },
  { cls := 19, slots := #[.long (112)], vm := .none },
  { cls := 19, slots := #[.long (113)], vm := .none },
  { cls := 19, slots := #[.long (114)], vm := .none },
  { cls := 19, slots := #[.long (115)], vm := .none },
  { cls := 19, slots := #[.long (116)], vm := .none },
  { cls := 19, slots := #[.long (117)], vm := .none },
  { cls := 19, slots := #[.long (118)], vm := .none },
  { cls := 19, slots := #[.long (119)], vm := .none },
  { cls := 19, slots := #[.long (120)], vm := .none },
  { cls := 19, slots := #[.long (121)], vm := .none },
  { cls := 19, slots := #[.long (122)], vm := .none },
  { cls := 19, slots := #[.long (123)], vm := .none },
  { cls := 19, slots := #[.long (124)], vm := .none },
  { cls := 19, slots := #[.long (125)], vm := .none },
  { cls := 19, slots := #[.long (126)], vm := .none },
  { cls := 19, slots := #[.long (127)], vm := .none },
  { cls := 36, slots := #[], vm := .none },
  { cls := 36, slots := #[], vm := .none }]
def classes : Array Class := #[k0, k1, k2, k3, k4, k5, k6, k7, k8, k9, k10, k11, k12, k13, k14, k15, k16, k17, k18, k19, k20, k21, k22, k23, k24, k25, k26, k27, k28, k29, k30, k31, k32, k33, k34, k35, k36]
def interned : List (Array UInt16 × Addr) := []
def slotsUsed : Nat := 529
def theMethod : MethodId := ⟨1, 1⟩
def args0 : Array Value := #[.int 5, .long 3, .int 4, .int 1, .long 7]
def aboutOver (below : List Frame) : State where
  vm := { classes := classes, interned := interned.toArray }
  heap := heap
  slotsUsed := slotsUsed
  threads := #[{ frames := .invoking theMethod args0 :: below }]
def below0 : List Frame := [.native { method := ⟨0, 0⟩, args := #[] }]
def about1 : State := aboutOver below0
def p0 : Program := .bare "" "" ""
def e0 : Env := launch0.env 0 0 0
theorem w_frames : about1.frames = Frame.invoking theMethod args0 :: below0 := rfl
set_option maxRecDepth 65536 in
theorem w_args : argsFit about1.vm theMethod args0 = true := by decide +kernel
set_option maxRecDepth 65536 in
theorem w_heap : heapFits about1 = true := by decide +kernel
set_option maxRecDepth 65536 in
theorem w_runnable : about1.curStatus? = some .runnable := by decide +kernel
set_option maxRecDepth 65536 in
theorem w_alone : about1.alone = true := by decide +kernel
set_option maxRecDepth 65536 in
theorem w_named : about1.methodNamed? x = some theMethod := by decide +kernel
set_option maxRecDepth 65536 in
theorem w_hears : about1.hears theMethod below0 = true := by decide +kernel
set_option maxRecDepth 65536 in
theorem w_ripe : about1.ripe theMethod args0 below0 = true := by decide +kernel
theorem w_running : about1.status = .running := rfl
set_option maxRecDepth 65536 in
theorem w_room : about1.hasRoom e0.platform room_1 = true :=
  launch0.hasRoom_least _ room_1 (by decide +kernel) (by decide +kernel) (by decide +kernel) (by decide +kernel) (by decide +kernel) (by decide +kernel)
theorem allAtoms_all (ts : List Jvm.Cond) (a : Array Jvm.Value) (st : Jvm.State) : (allAtoms ts).before a st = ts.all (fun c => c.before a st) := by
  induction ts with
  | nil => rfl
  | cons c t ih =>
    show (Jvm.Cond.and c (allAtoms t)).before a st = _
    rw [Jvm.Cond.before_and, ih, List.all_cons]
def words1 : List Jvm.Cond := Jvm.Cond.code x code maxLocals ret :: tables_1
/-- a 'code' word, met by the world's own term for the bytes: nothing is compared byte by byte -/
theorem code_word {y : MethodName} {bytes : ByteArray} {mx : Nat} {rt : Option FieldType} {a : Array Value} {s : State} {m : MethodId} {meth : Method} {c : Code} (h1 : s.methodNamed? y = some m) (h2 : s.vm.method? m = some meth) (h3 : meth.code = some c) (h4 : c.code = bytes)
    (h5 : (c.maxLocals == mx && c.exceptionTable.isEmpty && decide (c.maxStack ≤ mostOperands) && decide (meth.sig.returnType = rt) && !meth.locks && decide (parseMethodDescriptor y.desc = some meth.sig)) = true) : (Jvm.Cond.code y bytes mx rt).before a s = true := by
  simp only [Bool.and_eq_true, beq_iff_eq, Bool.not_eq_true', decide_eq_true_eq] at h5
  obtain ⟨⟨⟨⟨⟨g1, g2⟩, g3⟩, g4⟩, g5⟩, g6⟩ := h5
  simp [Cond.before, Cond.holds, Cond.value, h1, h2, h3, h4, g1, g2, g3, g4, g5, g6]
def isCode : Jvm.Cond → Bool
  | .code _ _ _ _ => true
  | _ => false
theorem all_split {L : List Jvm.Cond} {P : Jvm.Cond → Bool} (h1 : L.all (fun c => isCode c || P c) = true) (h2 : ∀ c ∈ L.filter isCode, P c = true) : L.all P = true := by
  refine List.all_eq_true.mpr fun c hc => ?_
  have h := List.all_eq_true.mp h1 c hc
  rcases Bool.eq_false_or_eq_true (isCode c) with hi | hi
  · exact h2 c (List.mem_filter.mpr ⟨hc, hi⟩)
  · simpa [hi] using h
set_option maxRecDepth 65536 in
theorem w_c0 : (Jvm.Cond.code x code maxLocals ret).before args0 about1 = true := code_word (m := ⟨1, 1⟩) (meth := k1m1) (c := k1c1) (by decide +kernel) rfl rfl rfl (by decide +kernel)
set_option maxRecDepth 65536 in
theorem w_c1 : (Jvm.Cond.code ({ cls := "java/lang/String", name := "<init>", desc := "([C)V" } : Jvm.MethodName) jdk_42_method_3_code (2 : Nat) (Option.none : Option Jvm.ClassFile.FieldType)).before args0 about1 = true := code_word (m := ⟨7, 1⟩) (meth := k7m1) (c := k7c1) (by decide +kernel) rfl rfl rfl (by decide +kernel)
set_option maxRecDepth 65536 in
theorem w_c2 : (Jvm.Cond.code ({ cls := "java/lang/String", name := "<init>", desc := "([CIILjava/lang/Void;)V" } : Jvm.MethodName) jdk_42_method_149_code (6 : Nat) (Option.none : Option Jvm.ClassFile.FieldType)).before args0 about1 = true := code_word (m := ⟨7, 2⟩) (meth := k7m2) (c := k7c2) (by decide +kernel) rfl rfl rfl (by decide +kernel)
set_option maxRecDepth 65536 in
theorem w_c3 : (Jvm.Cond.code ({ cls := "java/lang/Object", name := "<init>", desc := "()V" } : Jvm.MethodName) object_method_1_code (1 : Nat) (Option.none : Option Jvm.ClassFile.FieldType)).before args0 about1 = true := code_word (m := ⟨0, 0⟩) (meth := k0m0) (c := k0c0) (by decide +kernel) rfl rfl rfl (by decide +kernel)
set_option maxRecDepth 65536 in
theorem w_c4 : (Jvm.Cond.code ({ cls := "java/lang/StringUTF16", name := "compress", desc := "([CII)[B" } : Jvm.MethodName) jdk_52_method_16_code (6 : Nat) (Option.some (Jvm.ClassFile.FieldType.array Jvm.ClassFile.FieldType.byte))).before args0 about1 = true := code_word (m := ⟨8, 2⟩) (meth := k8m2) (c := k8c2) (by decide +kernel) rfl rfl rfl (by decide +kernel)
set_option maxRecDepth 65536 in
theorem w_c5 : (Jvm.Cond.code ({ cls := "java/lang/StringUTF16", name := "compress", desc := "([CI[BII)I" } : Jvm.MethodName) jdk_52_method_21_code (7 : Nat) (Option.some Jvm.ClassFile.FieldType.int)).before args0 about1 = true := code_word (m := ⟨8, 3⟩) (meth := k8m3) (c := k8c3) (by decide +kernel) rfl rfl rfl (by decide +kernel)
set_option maxRecDepth 65536 in
theorem w_c6 : (Jvm.Cond.code ({ cls := "java/lang/StringUTF16", name := "coderFromArrayLen", desc := "([BI)B" } : Jvm.MethodName) jdk_52_method_15_code (2 : Nat) (Option.some Jvm.ClassFile.FieldType.byte)).before args0 about1 = true := code_word (m := ⟨8, 1⟩) (meth := k8m1) (c := k8c1) (by decide +kernel) rfl rfl rfl (by decide +kernel)
set_option maxRecDepth 65536 in
theorem w_c7 : (Jvm.Cond.code ({ cls := "java/util/ArrayList", name := "<init>", desc := "()V" } : Jvm.MethodName) jdk_38_method_2_code (1 : Nat) (Option.none : Option Jvm.ClassFile.FieldType)).before args0 about1 = true := code_word (m := ⟨17, 0⟩) (meth := k17m0) (c := k17c0) (by decide +kernel) rfl rfl rfl (by decide +kernel)
set_option maxRecDepth 65536 in
theorem w_c8 : (Jvm.Cond.code ({ cls := "java/util/AbstractList", name := "<init>", desc := "()V" } : Jvm.MethodName) jdk_39_method_1_code (1 : Nat) (Option.none : Option Jvm.ClassFile.FieldType)).before args0 about1 = true := code_word (m := ⟨14, 0⟩) (meth := k14m0) (c := k14c0) (by decide +kernel) rfl rfl rfl (by decide +kernel)
set_option maxRecDepth 65536 in
theorem w_c9 : (Jvm.Cond.code ({ cls := "java/util/AbstractCollection", name := "<init>", desc := "()V" } : Jvm.MethodName) jdk_22_method_1_code (1 : Nat) (Option.none : Option Jvm.ClassFile.FieldType)).before args0 about1 = true := code_word (m := ⟨11, 0⟩) (meth := k11m0) (c := k11c0) (by decide +kernel) rfl rfl rfl (by decide +kernel)
set_option maxRecDepth 65536 in
theorem w_c10 : (Jvm.Cond.code ({ cls := "java/lang/Long", name := "valueOf", desc := "(J)Ljava/lang/Long;" } : Jvm.MethodName) jdk_35_method_24_code (3 : Nat) (Option.some (Jvm.ClassFile.FieldType.object "java/lang/Long"))).before args0 about1 = true := code_word (m := ⟨19, 0⟩) (meth := k19m0) (c := k19c0) (by decide +kernel) rfl rfl rfl (by decide +kernel)
set_option maxRecDepth 65536 in
theorem w_c11 : (Jvm.Cond.code ({ cls := "java/util/ArrayList", name := "add", desc := "(Ljava/lang/Object;)Z" } : Jvm.MethodName) jdk_38_method_25_code (2 : Nat) (Option.some Jvm.ClassFile.FieldType.boolean)).before args0 about1 = true := code_word (m := ⟨17, 4⟩) (meth := k17m4) (c := k17c4) (by decide +kernel) rfl rfl rfl (by decide +kernel)
set_option maxRecDepth 65536 in
theorem w_c12 : (Jvm.Cond.code ({ cls := "java/util/ArrayList", name := "add", desc := "(Ljava/lang/Object;[Ljava/lang/Object;I)V" } : Jvm.MethodName) jdk_38_method_24_code (4 : Nat) (Option.none : Option Jvm.ClassFile.FieldType)).before args0 about1 = true := code_word (m := ⟨17, 3⟩) (meth := k17m3) (c := k17c3) (by decide +kernel) rfl rfl rfl (by decide +kernel)
set_option maxRecDepth 65536 in
theorem w_c13 : (Jvm.Cond.code ({ cls := "java/util/ArrayList", name := "grow", desc := "()[Ljava/lang/Object;" } : Jvm.MethodName) jdk_38_method_7_code (1 : Nat) (Option.some (Jvm.ClassFile.FieldType.array (Jvm.ClassFile.FieldType.object "java/lang/Object")))).before args0 about1 = true := code_word (m := ⟨17, 2⟩) (meth := k17m2) (c := k17c2) (by decide +kernel) rfl rfl rfl (by decide +kernel)
set_option maxRecDepth 65536 in
theorem w_c14 : (Jvm.Cond.code ({ cls := "java/util/ArrayList", name := "grow", desc := "(I)[Ljava/lang/Object;" } : Jvm.MethodName) jdk_38_method_6_code (4 : Nat) (Option.some (Jvm.ClassFile.FieldType.array (Jvm.ClassFile.FieldType.object "java/lang/Object")))).before args0 about1 = true := code_word (m := ⟨17, 1⟩) (meth := k17m1) (c := k17c1) (by decide +kernel) rfl rfl rfl (by decide +kernel)
set_option maxRecDepth 65536 in
theorem w_c15 : (Jvm.Cond.code ({ cls := "java/lang/Math", name := "max", desc := "(II)I" } : Jvm.MethodName) jdk_29_method_65_code (2 : Nat) (Option.some Jvm.ClassFile.FieldType.int)).before args0 about1 = true := code_word (m := ⟨21, 1⟩) (meth := k21m1) (c := k21c1) (by decide +kernel) rfl rfl rfl (by decide +kernel)
set_option maxRecDepth 65536 in
theorem w_c16 : (Jvm.Cond.code ({ cls := "com/example/lockstep/lockstep/history/Edn", name := "isInteger", desc := "(Ljava/lang/Object;)Z" } : Jvm.MethodName) prog_34_method_3_code (1 : Nat) (Option.some Jvm.ClassFile.FieldType.boolean)).before args0 about1 = true := code_word (m := ⟨22, 0⟩) (meth := k22m0) (c := k22c0) (by decide +kernel) rfl rfl rfl (by decide +kernel)
set_option maxRecDepth 65536 in
theorem w_c17 : (Jvm.Cond.code ({ cls := "java/lang/Long", name := "<init>", desc := "(J)V" } : Jvm.MethodName) jdk_35_method_26_code (3 : Nat) (Option.none : Option Jvm.ClassFile.FieldType)).before args0 about1 = true := code_word (m := ⟨19, 1⟩) (meth := k19m1) (c := k19c1) (by decide +kernel) rfl rfl rfl (by decide +kernel)
set_option maxRecDepth 65536 in
theorem w_c18 : (Jvm.Cond.code ({ cls := "java/lang/Number", name := "<init>", desc := "()V" } : Jvm.MethodName) jdk_18_method_1_code (1 : Nat) (Option.none : Option Jvm.ClassFile.FieldType)).before args0 about1 = true := code_word (m := ⟨18, 0⟩) (meth := k18m0) (c := k18c0) (by decide +kernel) rfl rfl rfl (by decide +kernel)
set_option maxRecDepth 65536 in
theorem w_c19 : (Jvm.Cond.code ({ cls := "com/example/lockstep/lockstep/history/Edn$Decimal", name := "<init>", desc := "(Ljava/lang/String;J)V" } : Jvm.MethodName) prog_36_method_1_code (4 : Nat) (Option.none : Option Jvm.ClassFile.FieldType)).before args0 about1 = true := code_word (m := ⟨25, 0⟩) (meth := k25m0) (c := k25c0) (by decide +kernel) rfl rfl rfl (by decide +kernel)
set_option maxRecDepth 65536 in
theorem w_c20 : (Jvm.Cond.code ({ cls := "java/lang/Record", name := "<init>", desc := "()V" } : Jvm.MethodName) jdk_30_method_1_code (1 : Nat) (Option.none : Option Jvm.ClassFile.FieldType)).before args0 about1 = true := code_word (m := ⟨23, 0⟩) (meth := k23m0) (c := k23c0) (by decide +kernel) rfl rfl rfl (by decide +kernel)
set_option maxRecDepth 65536 in
theorem w_c21 : (Jvm.Cond.code ({ cls := "com/example/lockstep/lockstep/history/Edn$BigInt", name := "<init>", desc := "(Ljava/lang/String;)V" } : Jvm.MethodName) prog_35_method_1_code (2 : Nat) (Option.none : Option Jvm.ClassFile.FieldType)).before args0 about1 = true := code_word (m := ⟨24, 0⟩) (meth := k24m0) (c := k24c0) (by decide +kernel) rfl rfl rfl (by decide +kernel)
def codes1 : List Jvm.Cond := [Jvm.Cond.code x code maxLocals ret, Jvm.Cond.code ({ cls := "java/lang/String", name := "<init>", desc := "([C)V" } : Jvm.MethodName) jdk_42_method_3_code (2 : Nat) (Option.none : Option Jvm.ClassFile.FieldType), Jvm.Cond.code ({ cls := "java/lang/String", name := "<init>", desc := "([CIILjava/lang/Void;)V" } : Jvm.MethodName) jdk_42_method_149_code (6 : Nat) (Option.none : Option Jvm.ClassFile.FieldType), Jvm.Cond.code ({ cls := "java/lang/Object", name := "<init>", desc := "()V" } : Jvm.MethodName) object_method_1_code (1 : Nat) (Option.none : Option Jvm.ClassFile.FieldType), Jvm.Cond.code ({ cls := "java/lang/StringUTF16", name := "compress", desc := "([CII)[B" } : Jvm.MethodName) jdk_52_method_16_code (6 : Nat) (Option.some (Jvm.ClassFile.FieldType.array Jvm.ClassFile.FieldType.byte)), Jvm.Cond.code ({ cls := "java/lang/StringUTF16", name := "compress", desc := "([CI[BII)I" } : Jvm.MethodName) jdk_52_method_21_code (7 : Nat) (Option.some Jvm.ClassFile.FieldType.int), Jvm.Cond.code ({ cls := "java/lang/StringUTF16", name := "coderFromArrayLen", desc := "([BI)B" } : Jvm.MethodName) jdk_52_method_15_code (2 : Nat) (Option.some Jvm.ClassFile.FieldType.byte), Jvm.Cond.code ({ cls := "java/util/ArrayList", name := "<init>", desc := "()V" } : Jvm.MethodName) jdk_38_method_2_code (1 : Nat) (Option.none : Option Jvm.ClassFile.FieldType), Jvm.Cond.code ({ cls := "java/util/AbstractList", name := "<init>", desc := "()V" } : Jvm.MethodName) jdk_39_method_1_code (1 : Nat) (Option.none : Option Jvm.ClassFile.FieldType), Jvm.Cond.code ({ cls := "java/util/AbstractCollection", name := "<init>", desc := "()V" } : Jvm.MethodName) jdk_22_method_1_code (1 : Nat) (Option.none : Option Jvm.ClassFile.FieldType), Jvm.Cond.code ({ cls := "java/lang/Long", name := "valueOf", desc := "(J)Ljava/lang/Long;" } : Jvm.MethodName) jdk_35_method_24_code (3 : Nat) (Option.some (Jvm.ClassFile.FieldType.object "java/lang/Long")), Jvm.Cond.code ({ cls := "java/util/ArrayList", name := "add", desc := "(Ljava/lang/Object;)Z" } : Jvm.MethodName) jdk_38_method_25_code (2 : Nat) (Option.some Jvm.ClassFile.FieldType.boolean), Jvm.Cond.code ({ cls := "java/util/ArrayList", name := "add", desc := "(Ljava/lang/Object;[Ljava/lang/Object;I)V" } : Jvm.MethodName) jdk_38_method_24_code (4 : Nat) (Option.none : Option Jvm.ClassFile.FieldType), Jvm.Cond.code ({ cls := "java/util/ArrayList", name := "grow", desc := "()[Ljava/lang/Object;" } : Jvm.MethodName) jdk_38_method_7_code (1 : Nat) (Option.some (Jvm.ClassFile.FieldType.array (Jvm.ClassFile.FieldType.object "java/lang/Object"))), Jvm.Cond.code ({ cls := "java/util/ArrayList", name := "grow", desc := "(I)[Ljava/lang/Object;" } : Jvm.MethodName) jdk_38_method_6_code (4 : Nat) (Option.some (Jvm.ClassFile.FieldType.array (Jvm.ClassFile.FieldType.object "java/lang/Object"))), Jvm.Cond.code ({ cls := "java/lang/Math", name := "max", desc := "(II)I" } : Jvm.MethodName) jdk_29_method_65_code (2 : Nat) (Option.some Jvm.ClassFile.FieldType.int), Jvm.Cond.code ({ cls := "com/example/lockstep/lockstep/history/Edn", name := "isInteger", desc := "(Ljava/lang/Object;)Z" } : Jvm.MethodName) prog_34_method_3_code (1 : Nat) (Option.some Jvm.ClassFile.FieldType.boolean), Jvm.Cond.code ({ cls := "java/lang/Long", name := "<init>", desc := "(J)V" } : Jvm.MethodName) jdk_35_method_26_code (3 : Nat) (Option.none : Option Jvm.ClassFile.FieldType), Jvm.Cond.code ({ cls := "java/lang/Number", name := "<init>", desc := "()V" } : Jvm.MethodName) jdk_18_method_1_code (1 : Nat) (Option.none : Option Jvm.ClassFile.FieldType), Jvm.Cond.code ({ cls := "com/example/lockstep/lockstep/history/Edn$Decimal", name := "<init>", desc := "(Ljava/lang/String;J)V" } : Jvm.MethodName) prog_36_method_1_code (4 : Nat) (Option.none : Option Jvm.ClassFile.FieldType), Jvm.Cond.code ({ cls := "java/lang/Record", name := "<init>", desc := "()V" } : Jvm.MethodName) jdk_30_method_1_code (1 : Nat) (Option.none : Option Jvm.ClassFile.FieldType), Jvm.Cond.code ({ cls := "com/example/lockstep/lockstep/history/Edn$BigInt", name := "<init>", desc := "(Ljava/lang/String;)V" } : Jvm.MethodName) prog_35_method_1_code (2 : Nat) (Option.none : Option Jvm.ClassFile.FieldType)]
set_option maxRecDepth 65536 in
theorem codes_eq : words1.filter isCode = codes1 := rfl
theorem w_codes : ∀ c ∈ words1.filter isCode, c.before args0 about1 = true := by
  rw [codes_eq]
  intro c hc
  simp only [codes1, List.mem_cons, List.not_mem_nil, or_false] at hc
  rcases hc with rfl | rfl | rfl | rfl | rfl | rfl | rfl | rfl | rfl | rfl | rfl | rfl | rfl | rfl | rfl | rfl | rfl | rfl | rfl | rfl | rfl | rfl
  · exact w_c0
  · exact w_c1
  · exact w_c2
  · exact w_c3
  · exact w_c4
  · exact w_c5
  · exact w_c6
  · exact w_c7
  · exact w_c8
  · exact w_c9
  · exact w_c10
  · exact w_c11
  · exact w_c12
  · exact w_c13
  · exact w_c14
  · exact w_c15
  · exact w_c16
  · exact w_c17
  · exact w_c18
  · exact w_c19
  · exact w_c20
  · exact w_c21
set_option maxRecDepth 65536 in
theorem w_t1 : (words1.take 24).all (fun c => isCode c || c.before args0 about1) = true := by decide +kernel
set_option maxRecDepth 65536 in
theorem w_t2 : ((words1.drop 24).take 24).all (fun c => isCode c || c.before args0 about1) = true := by decide +kernel
set_option maxRecDepth 65536 in
theorem w_t3 : (((words1.drop 24).drop 24).take 24).all (fun c => isCode c || c.before args0 about1) = true := by decide +kernel
set_option maxRecDepth 65536 in
theorem w_t4 : ((((words1.drop 24).drop 24).drop 24).take 24).all (fun c => isCode c || c.before args0 about1) = true := by decide +kernel
set_option maxRecDepth 65536 in
theorem w_t5 : (((((words1.drop 24).drop 24).drop 24).drop 24).take 24).all (fun c => isCode c || c.before args0 about1) = true := by decide +kernel
set_option maxRecDepth 65536 in
theorem w_t6 : ((((((words1.drop 24).drop 24).drop 24).drop 24).drop 24).take 24).all (fun c => isCode c || c.before args0 about1) = true := by decide +kernel
set_option maxRecDepth 65536 in
theorem w_t7 : ((((((words1.drop 24).drop 24).drop 24).drop 24).drop 24).drop 24).all (fun c => isCode c || c.before args0 about1) = true := by decide +kernel
theorem w_tables : (allAtoms (Jvm.Cond.code x code maxLocals ret :: tables_1)).before args0 about1 = true := by
  rw [allAtoms_all]
  show words1.all (fun c => c.before args0 about1) = true
  refine all_split ?_ w_codes
  rw [← List.take_append_drop 24 words1, List.all_append, w_t1, ← List.take_append_drop 24 (words1.drop 24), List.all_append, w_t2, ← List.take_append_drop 24 ((words1.drop 24).drop 24), List.all_append, w_t3, ← List.take_append_drop 24 (((words1.drop 24).drop 24).drop 24), List.all_append, w_t4, ← List.take_append_drop 24 ((((words1.drop 24).drop 24).drop 24).drop 24), List.all_append, w_t5, ← List.take_append_drop 24 (((((words1.drop 24).drop 24).drop 24).drop 24).drop 24), List.all_append, w_t6, w_t7]
  rfl
set_option maxRecDepth 65536 in
theorem w_rest : rest_1_c.before args0 about1 = true := by decide +kernel
set_option maxRecDepth 65536 in
theorem w_case : (Jvm.Cond.and given_1 narrow_1).before args0 about1 = true := by decide +kernel
theorem w_applies : (headSpec (Jvm.Cond.code x code maxLocals ret :: tables_1) room_1).applies x e0.platform about1 = true :=
  (Spec.applies_iff w_frames).mpr ⟨w_running, w_runnable, w_alone, w_named, w_hears, w_ripe, w_room, w_tables⟩
theorem atStart : AtStart classFile x code maxLocals ret World_1 tables_1 room_1 Calls_1 rest_1 Pre_1 launch0 p0 e0 about1 theMethod args0 below0 :=
  ⟨lists_1, trivial, launch0.admits_env _ _ _, launch0.least_env, fairChoices_fair.cas, fairChoices_fair.clock, w_frames, w_args, w_heap, w_applies, trivial, w_rest, w_case⟩
end start1
theorem witness_1 : WitnessClaimed_1 := ⟨start1.p0, start1.e0, start1.about1, start1.theMethod, start1.args0, start1.below0, start1.atStart⟩
end Jvm.Pilot.@@N@@
