import JvmDerived
import JvmDerived.Pilot.@@N@@Statement
import JvmDerived.Pilot.@@N@@Code
set_option linter.unusedVariables false
set_option linter.unusedSimpArgs false
namespace Jvm.Pilot.@@N@@
open Jvm Jvm.ClassFile Sem Op Lib Jvm.Free Jvm.Stand Jvm.LawKit Jvm.RoadKit Bundle Jvm.Pilot.@@N@@.Jvm.D
theorem own_g {Z : State} {a0 : Array Value} (hw : ∀ d ∈ tables_1, d.before a0 Z = true) {i : Nat} {d : Jvm.Cond} (h : tables_1[i]? = some d) : d.before a0 Z = true := hw _ (List.mem_of_getElem? h)
/-- the walk from the frame g in the state T comes to an end of which K holds -/
def own_E (p : Program) (e : Env) (below : List Frame) (K : Outcome → State → Prop) (T : State) (g : JFrame) : Prop := ∃ s₂ o, Steps p.tables e below (T.setTop g) s₂ ∧ s₂.status = .running ∧ Ended s₂ below o ∧ K o s₂
def own_K (s : State) (Q : Option Value → Heap → List Loc → Prop) (kc ks : Nat) (o : Outcome) (U : State) : Prop := ∃ v L, o = .returned v ∧ Q v U.heap L ∧ FrameEnd s o U L kc ks
section OwnKit
variable {p : Program} {l : Launch} {e : Env} {R : Room} {s : State} {m : MethodId} {args : Array Value} {below : List Frame} {meth : Method} {c : Code} {T T' : State} {locs : List Loc} {cells slots : Nat} {K : Outcome → State → Prop} {Z : State} {h h' : Heap}
theorem own_S {g : JFrame} (g' : JFrame) (st : ∀ t, Steps p.tables e below (T'.setTop g') t → Steps p.tables e below (T.setTop g) t) (k : own_E p e below K T' g') : own_E p e below K T g := by
  obtain ⟨s₂, o, h1, h2⟩ := k
  exact ⟨s₂, o, st _ h1, h2⟩
theorem own_s {g : JFrame} {t : State} (g' : JFrame) (st : ∀ t, Steps p.tables e below (T'.setTop g') t → Steps p.tables e below (T.setTop g) t) (k : Steps p.tables e below (T'.setTop g') t) : Steps p.tables e below (T.setTop g) t := st t k
theorem own_ret {Q : Option Value → Heap → List Loc → Prop} {kc ks : Nat} (X : Stand p l e R s m args below meth c T locs cells slots) (hx : p.tables.exec = Jvm.exec) (hlk : meth.locks = false) {pc : Nat} {Ls : Array Slot} {w : Value} {t : FieldType} {i : Instr} {rest : List Value} (hret : meth.sig.returnType = some t) (hn : narrow t w = w)
    (hi : (i = .ireturn ∧ (t = .int ∨ t = .boolean ∨ t = .byte ∨ t = .char ∨ t = .short) ∧ ∃ z, w = .int z) ∨ (i = .lreturn ∧ t = .long ∧ ∃ z, w = .long z) ∨ (i = .dreturn ∧ t = .double ∧ ∃ z, w = .double z) ∨ (i = .freturn ∧ t = .float ∧ ∃ z, w = .float z) ∨ (i = .areturn ∧ t.isReference = true ∧ w.isRef = true))
    (hd : decode c.code pc = .ok (i, 1)) (hQ : Q (some w) T.heap locs) (h1 : cells ≤ kc) (h2 : slots ≤ ks) : own_E p e below (own_K s Q kc ks) T (mkF m pc Ls (w :: rest)) := by
  obtain ⟨fs, hr, hrun, hended, hW, hsame⟩ := X.leave (v := some w) (fun h => by rw [hret] at h; cases h) hlk
  exact ⟨_, _, retOut X hx hret hn hi hd hr, hrun, hended, _, _, rfl, hQ, ⟨_, rfl⟩, hW, hsame.mono h1 h2⟩
theorem own_retN {Q : Option Value → Heap → List Loc → Prop} {kc ks : Nat} (X : Stand p l e R s m args below meth c T locs cells slots) (hx : p.tables.exec = Jvm.exec) (hlk : meth.locks = false) {pc : Nat} {Ls : Array Slot} {z : Int32} {t : FieldType} {rest : List Value} (hret : meth.sig.returnType = some t) (ht : t = .boolean ∨ t = .byte ∨ t = .char ∨ t = .short)
    (hd : decode c.code pc = .ok (.ireturn, 1)) (hQ : Q (some (.int (nar t z))) T.heap locs) (h1 : cells ≤ kc) (h2 : slots ≤ ks) : own_E p e below (own_K s Q kc ks) T (mkF m pc Ls (.int z :: rest)) := by
  obtain ⟨fs, hr, hrun, hended, hW, hsame⟩ := X.leave (v := some (.int (nar t z))) (fun h => by rw [hret] at h; cases h) hlk
  exact ⟨_, _, retN X hx hret ht hd hr, hrun, hended, _, _, rfl, hQ, ⟨_, rfl⟩, hW, hsame.mono h1 h2⟩
theorem own_ret0 {Q : Option Value → Heap → List Loc → Prop} {kc ks : Nat} (X : Stand p l e R s m args below meth c T locs cells slots) (hx : p.tables.exec = Jvm.exec) (hlk : meth.locks = false) {pc : Nat} {Ls : Array Slot} (hret : meth.sig.returnType = none)
    (hd : decode c.code pc = .ok (.return_, 1)) (hQ : Q none T.heap locs) (h1 : cells ≤ kc) (h2 : slots ≤ ks) : own_E p e below (own_K s Q kc ks) T (mkF m pc Ls []) := by
  obtain ⟨fs, hr, hrun, hended, hW, hsame⟩ := X.leave (v := none) (fun _ => rfl) hlk
  exact ⟨_, _, X.returnOut hx hret hd hr, hrun, hended, _, _, rfl, hQ, ⟨_, rfl⟩, hW, hsame.mono h1 h2⟩
theorem own_weak (X : Stand p l e R s m args below meth c T locs cells slots) {locs' : List Loc} {kc ks : Nat} (hl : ∀ y ∈ locs, y ∈ locs' ∨ s.heap.size ≤ y.base) (h1 : cells ≤ kc) (h2 : slots ≤ ks) : Stand p l e R s m args below meth c T locs' kc ks :=
  { X with same := (X.same.sift hl).mono h1 h2 }
theorem Sta_keep {C n d : String} {w : Value} {ws : List Addr} {n0 : Nat} (F : Sta Z h C n d w) (K : Keep h h' ws) (hn : ∀ a ∈ ws, ∀ cell : Cell, h[a]? = some cell → cell.vm.isStatics = false) : Sta Z h' C n d w := by
  obtain ⟨cf, i, k, f, st, cell, h1, h2, h3, h4, h5, h6, h7⟩ := F
  exact ⟨cf, i, k, f, st, cell, h1, h2, h3, h4, K.2.1 st cell h5 (fun q => by have := hn st q cell h5; rw [h6] at this; cases this), h6, h7⟩
theorem Ins_keep {a : Addr} {C : String} {b : Bool} {ws : List Addr} (F : Ins Z h a C b) (K : Keep h h' ws) : Ins Z h' a C b := by
  obtain ⟨cell, cT, h1, h2, h3⟩ := F
  obtain ⟨c', q1, q2, q3, -⟩ := K.2.2 a cell h1
  exact ⟨c', cT, q1, h2, by rw [q2, q3]; exact h3⟩
end OwnKit
theorem own_fieldI {Z : State} {args : Array Value} {t : Term} {C n d : String} {k : Int32} {a : Addr} (ev : t.eval args Z none [] Z = some (.ref a)) (h : (Cond.eq (.field t C n d) (.int k)).value args Z none Z [] = some true) : Fld Z Z.heap a C n d (.int k) := by
  obtain ⟨x, y, h1, h2, k1, k2⟩ := cmp_v (Or.inl h)
  have hy : y = .int k := (Option.some.inj h2).symm
  subst hy
  obtain ⟨z, rfl⟩ : ∃ z, x = .int z := k2
  have hz : z = k := gotT (Cond.eq_ints h1 h2) h
  subst hz
  exact Fld.start ((fld_at ev).symm.trans h1)
theorem own_exa_plain {Z : State} {h : Heap} {a : Addr} {C : String} (F : Exa Z h a C) : ∀ cell : Cell, h[a]? = some cell → cell.vm.isStatics = false := fun cell hc => by
  obtain ⟨c1, k, h1, h2, h3, h4, h5⟩ := F
  cases h1.symm.trans hc
  exact h4
theorem own_allS {P : Addr → Prop} {y : Addr} {L : List Addr} (q : P y) (r : ∀ x ∈ L, P x) : ∀ x ∈ y :: L, P x := fun x z => (List.mem_cons.mp z).elim (fun u => u ▸ q) (r x)
theorem own_NSr {Z : State} {a0 : Array Value} {O K : String} {n : Nat} (w : (Cond.noSuperclass O).before a0 Z = true) (wk : (Cond.instantiable K n).before a0 Z = true) (hn : O ≠ K) : NS Z O K := by
  obtain ⟨c, k, h1, h2, h3, -, -⟩ := Cond.noSuperclass_spec w
  obtain ⟨t, kt, g1, -⟩ := Cond.instantiable_spec wk
  refine ⟨c, t, h1, g1, fun fuel => ?_⟩
  have ne := ids_ne h1 g1 hn
  cases fuel with
  | zero => rfl
  | succ f => simp [Vm.isSubclassAux, ne, h2, h3]
theorem own_NSn {Z : State} {a0 : Array Value} {C S K : String} {n : Nat} (w : (Cond.superclass C S).before a0 Z = true) (wk : (Cond.instantiable K n).before a0 Z = true) (q : NS Z C K) : ∃ c t, Z.vm.findClass C = some c ∧ Z.vm.findClass K = some t ∧ Z.vm.assignable c t = false := by
  obtain ⟨c, t, h0, g0, h3⟩ := q
  obtain ⟨p, k, kp, -, h2, -, -, h5, -⟩ := Cond.superclass_spec h0 w
  obtain ⟨t', kt, g1, g2, g3, g4, -⟩ := Cond.instantiable_spec wk
  cases g0.symm.trans g1
  refine ⟨c, t, h0, g0, ?_⟩
  cases hA : Z.vm.assignable c t with
  | false => rfl
  | true =>
    have hi : kt.isInterface = false := by
      cases hk : kt.isInterface with
      | false => rfl
      | true => rw [hk] at g4; cases g4
    have hS : Z.vm.isSubclass c t = true := isSubclass_of_assignable h2 g2 h5 g3 hi hA
    have hF : Z.vm.isSubclass c t = false := h3 _
    rw [hF] at hS
    cases hS
/-- the cache of the boxed longs: 256 places, the j-th a Long that holds j - 128 -/
def own_Cache (Z : State) (ca : Addr) : Prop := ∃ c : Cell, Bxs Z ca c "java/lang/Long" "J" 256 (fun j => .long (j - (128 : Int32)).toInt64)
theorem own_idx0 (x : Int64) (h1 : ¬ x < (-128 : Int64)) (h2 : ¬ (127 : Int64) < x) : (((x).toInt32) + (128 : Int32)).toInt = x.toInt + 128 ∧ -128 ≤ x.toInt ∧ x.toInt ≤ 127 := by
  have a1 : (-128 : Int64).toInt = -128 := rfl
  have a2 : (127 : Int64).toInt = 127 := rfl
  have a3 : (128 : Int32).toInt = 128 := rfl
  rw [Int64.lt_iff_toInt_lt] at h1 h2
  have b1 := c_l2i x
  have b2 := c_iadd x.toInt32 128
  have b3 := rng32 (x.toInt32 + 128)
  have b4 := rng32 x.toInt32
  omega
theorem own_inC {c : Cell} (x : Int64) (h1 : ¬ x < (-128 : Int64)) (h2 : ¬ (127 : Int64) < x) (hs : c.slots.size = (256 : Int32).toNatClampNeg) : ¬ ((((x).toInt32) + (128 : Int32)) < 0 ∨ c.slots.size ≤ (((x).toInt32) + (128 : Int32)).toNatClampNeg) := by
  obtain ⟨e, b1, b2⟩ := own_idx0 x h1 h2
  have a0 : (0 : Int32).toInt = 0 := rfl
  have a1 : (256 : Int32).toNatClampNeg = 256 := rfl
  have a2 : (((x).toInt32) + (128 : Int32)).toNatClampNeg = (x.toInt + 128).toNat := by rw [← e]; rfl
  rw [hs, a1, a2, Int32.lt_iff_toInt_lt]
  omega
theorem own_back (x : Int64) (h1 : ¬ x < (-128 : Int64)) (h2 : ¬ (127 : Int64) < x) : ((((x).toInt32) + (128 : Int32)) - (128 : Int32)).toInt64 = x := by
  obtain ⟨e, b1, b2⟩ := own_idx0 x h1 h2
  apply Int64.toInt_inj.mp
  rw [c_i2l]
  have a3 : (128 : Int32).toInt = 128 := rfl
  have b2 := c_isub (x.toInt32 + 128) 128
  have b3 := rng32 (x.toInt32 + 128 - 128)
  omega
theorem own_look {Z : State} {h : Heap} {ca : Addr} {c : Cell} (F : Bxs Z ca c "java/lang/Long" "J" 256 (fun j => .long (j - (128 : Int32)).toInt64)) (E : Ext Z.heap h) (x : Int64) (h1 : ¬ x < (-128 : Int64)) (h2 : ¬ (127 : Int64) < x) : ∃ r, c.slots[(((x).toInt32) + (128 : Int32)).toNatClampNeg]? = some (.ref r) ∧ Exa Z h r "java/lang/Long" ∧ Fld Z h r "java/lang/Long" "value" "J" (.long x) := by
  obtain ⟨r, q1, q2, q3⟩ := F.2.2.2 _ (own_inC x h1 h2 F.2.1)
  dsimp only at q3
  rw [own_back x h1 h2] at q3
  exact ⟨r, q1, q2.ext E, q3.ext E⟩
theorem own_len {Z : State} {args : Array Value} {t : Term} {a : Addr} {c : Cell} {n : Int32} (ev : t.eval args Z none [] Z = some (.ref a)) (hA : Z.arrayAt? a = some c) (hl : (Term.length t).eval args Z none [] Z = some (.int n)) : c.slots.size < 2 ^ 31 ∧ c.slots.size.toInt32 = n := by
  by_cases q : c.slots.size < 2 ^ 31
  · rw [len_f ev hA q] at hl
    injection hl with hl
    injection hl with hl
    exact ⟨q, hl⟩
  · simp [Term.eval, ev, hA, q] at hl
theorem own_sub {Z : State} {args : Array Value} {t u : Term} {idx : List Nat} {x y : Int32} (ha : t.eval args Z none idx Z = some (.int x)) (hb : u.eval args Z none idx Z = some (.int y)) : (Term.sub t u).eval args Z none idx Z = some (.int (x - y)) := by simp [Term.eval, ha, hb]
theorem own_cache0 {Z : State} {args : Array Value} {C n d : String} {ca : Addr} (ev : (Term.static C n d).eval args Z none [] Z = some (.ref ca)) (h1 : (Cond.arrayOf (Term.static C n d) (.object "java/lang/Long")).value args Z none Z [] = some true) (h2 : (Cond.eq (.length (Term.static C n d)) (.int 256)).value args Z none Z [] = some true) (h3 : (Cond.all (Term.static C n d) (Cond.and (Cond.exactly (.elem (Term.static C n d) (.index 0)) "java/lang/Long") (Cond.eq (.field (.elem (Term.static C n d) (.index 0)) "java/lang/Long" "value" "J") (.op1 .i2l (.sub (.index 0) (.int 128)))))).value args Z none Z [] = some true) : own_Cache Z ca := by
  obtain ⟨c, A⟩ := Arr.start ev h1
  have hl := eqv_i (Term.int_eval 256) h2
  obtain ⟨hq, he⟩ := own_len ev (A.fin (Vm.Alike.refl _)) hl
  refine ⟨c, Bxs.start (fun idx => ev) A hq he (by decide) h3 (fun X j hj hX => eqv_l (i2l_at ?_) hX)⟩
  exact own_sub (idx_at hj) (Term.int_eval 128)
theorem own_law (m1 l1 m2 l2 : Int64) : (if m1 = m2 ∧ l1 = l2 then (1 : Int32) else (0 : Int32)) = (if m1 = m2 then (if l1 = l2 then (1 : Int32) else (0 : Int32)) else (0 : Int32)) := by
  by_cases h1 : m1 = m2 <;> by_cases h2 : l1 = l2 <;> simp [h1, h2]
abbrev own_y0 : MethodName := ⟨"com/example/stickler/stickler/metadata/TopicId", "<init>", "(JJ)V"⟩
abbrev own_y1 : MethodName := ⟨"java/lang/Number", "<init>", "()V"⟩
abbrev own_y2 : MethodName := ⟨"java/lang/Long", "<init>", "(J)V"⟩
abbrev own_y3 : MethodName := ⟨"java/lang/Long", "valueOf", "(J)Ljava/lang/Long;"⟩
abbrev own_y4 : MethodName := ⟨"com/example/stickler/stickler/metadata/TopicId", "equals", "(Ljava/lang/Object;)Z"⟩
theorem d1_0 : decode prog_28_method_1_code 0 = .ok (.aload_n 0, 1) := by decide +kernel
theorem d1_1 : decode prog_28_method_1_code 1 = .ok (.invokespecial 1, 3) := by decide +kernel
theorem d1_4 : decode prog_28_method_1_code 4 = .ok (.lload_n 1, 1) := by decide +kernel
theorem d1_5 : decode prog_28_method_1_code 5 = .ok (.lconst 0, 1) := by decide +kernel
theorem d1_6 : decode prog_28_method_1_code 6 = .ok (.lcmp, 1) := by decide +kernel
theorem d1_7 : decode prog_28_method_1_code 7 = .ok (.ifCond .ne 19, 3) := by decide +kernel
theorem d1_10 : decode prog_28_method_1_code 10 = .ok (.lload_n 3, 1) := by decide +kernel
theorem d1_11 : decode prog_28_method_1_code 11 = .ok (.lconst 0, 1) := by decide +kernel
theorem d1_12 : decode prog_28_method_1_code 12 = .ok (.lcmp, 1) := by decide +kernel
theorem d1_13 : decode prog_28_method_1_code 13 = .ok (.ifCond .ne 13, 3) := by decide +kernel
theorem d1_26 : decode prog_28_method_1_code 26 = .ok (.aload_n 0, 1) := by decide +kernel
theorem d1_27 : decode prog_28_method_1_code 27 = .ok (.lload_n 1, 1) := by decide +kernel
theorem d1_28 : decode prog_28_method_1_code 28 = .ok (.putfield 14, 3) := by decide +kernel
theorem d1_31 : decode prog_28_method_1_code 31 = .ok (.aload_n 0, 1) := by decide +kernel
theorem d1_32 : decode prog_28_method_1_code 32 = .ok (.lload_n 3, 1) := by decide +kernel
theorem d1_33 : decode prog_28_method_1_code 33 = .ok (.putfield 20, 3) := by decide +kernel
theorem d1_36 : decode prog_28_method_1_code 36 = .ok (.return_, 1) := by decide +kernel
theorem own_pn_com_example_stickler_stickler_metadata_TopicId : plainName "com/example/stickler/stickler/metadata/TopicId" = true := by first | (simp [plainName, overriddenIn]; done) | decide +kernel
theorem own_ef_ini (m : MethodId) (y0 : Addr) (y1 : Int64) (y2 : Int64) : entryFrame m #[(.ref y0), (.long y1), (.long y2)] 5 = mkF m 0 #[rv y0, .val (.long y1), .second, .val (.long y2), .second] [] := by first | (simp [entryFrame, mkF, argsToLocals, Value.category]; done) | rfl
def own_Qini (Z : State) (a : Addr) (x : Int64) (y : Int64) (u1 : Value) (u2 : Value) (h0 : Heap) (n0 : Nat) (v : Option Value) (h : Heap) (L : List Loc) : Prop := v = none ∧ Fr n0 L ∧ Keep h0 h [a] ∧ Exa Z h a "com/example/stickler/stickler/metadata/TopicId" ∧ Fld Z h a "com/example/stickler/stickler/metadata/TopicId" "mostSignificantBits" "J" (.long x) ∧ Fld Z h a "com/example/stickler/stickler/metadata/TopicId" "leastSignificantBits" "J" (.long y)
set_option maxRecDepth 65536 in
set_option maxHeartbeats 40000000 in
theorem own_rmini (l : Launch) (Z : State) (a0 : Array Value) (hw : ∀ d ∈ tables_1, d.before a0 Z = true) (ws : List Jvm.Cond) (a : Addr) (x : Int64) (y : Int64) (u1 : Value) (u2 : Value) (h0 : Heap) (n0 : Nat) (Z0 : n0 ≤ h0.size) (P0 : Exa Z h0 a "com/example/stickler/stickler/metadata/TopicId") (P1 : Fld Z h0 a "com/example/stickler/stickler/metadata/TopicId" "mostSignificantBits" "J" u1) (P2 : Fld Z h0 a "com/example/stickler/stickler/metadata/TopicId" "leastSignificantBits" "J" u2) (G_a : n0 ≤ a) (hz : ¬ (x = (0 : Int64) ∧ y = (0 : Int64))) :
    MetFree l own_y0 (head1 (Jvm.Cond.code own_y0 prog_28_method_1_code 5 none :: ws) ({ frames := 1, cells := 0, slots := 0, locals := 12 } : Room)) (fun az Uz => az = #[(.ref a), (.long x), (.long y)] ∧ Z.Warmed39 Uz.vm ∧ Uz.heap = h0) (fun _ _ _ _ _ => True) (fun _ U o U' => ∃ v L, o = .returned v ∧ own_Qini Z a x y u1 u2 h0 n0 v U'.heap L ∧ FrameEnd U o U' L ({ frames := 1, cells := 0, slots := 0, locals := 12 } : Room).cells ({ frames := 1, cells := 0, slots := 0, locals := 12 } : Room).slots) := by
  refine MetFree.of_bodySF (plainFor_of_name own_pn_com_example_stickler_stickler_metadata_TopicId) hisR ?_
  intro p e s m args below meth c s₁ Bd hml0 hP hK
  obtain ⟨rfl, hZ, hh⟩ := hP
  have hx := Bd.exec
  have hby := Bd.bytes
  have hml : c.maxLocals = 5 := hml0
  have hown : s.vm.findClass "com/example/stickler/stickler/metadata/TopicId" = some m.cls := findClass_of_methodNamed Bd.named
  have hnm := (name_of_methodNamed Bd.named Bd.method).1
  have hlk : meth.locks = false := BodyLoose.notSynchronized Bd
  have hret := Bd.returns
  have X0 : Stand p l e ({ frames := 1, cells := 0, slots := 0, locals := 12 } : Room) s m #[(.ref a), (.long x), (.long y)] below meth c s₁ [] 0 0 := Stand.of_body Bd
  have e0 : s₁.heap = h0 := by rw [← hh, Bd.state]; rfl
  have N0 := Fr.nil n0
  show own_E p e below (own_K s (own_Qini Z a x y u1 u2 h0 n0) ({ frames := 1, cells := 0, slots := 0, locals := 12 } : Room).cells ({ frames := 1, cells := 0, slots := 0, locals := 12 } : Room).slots) s₁ (entryFrame m #[(.ref a), (.long x), (.long y)] 5)
  refine own_S (mkF m 0 #[rv a, .val (.long x), .second, .val (.long y), .second] []) (fun _ k => castTop (own_ef_ini m (a) (x) (y)) k) ?_
  refine own_S (mkF m 1 #[rv a, .val (.long x), .second, .val (.long y), .second] [(.ref a)]) (fun _ k => XS.aloadN X0.here hx rfl (hb hby d1_0) rfl rfl k) ?_
  obtain ⟨T1, X1, e1, st1⟩ := initO X0 hx hZ hown (own_g hw (i := 6) rfl) (own_g hw (i := 7) rfl) (own_g hw (i := 8) rfl) e0 (g := (mkF m 1 #[rv a, .val (.long x), .second, .val (.long y), .second] [(.ref a)])) rfl (by rw [hml]; rfl) rfl (hb hby d1_1) (by decide) (W := 0) (by show 2 * 0 + _ ≤ _; exact Nat.le_of_eq rfl) (by decide)
  refine own_S (mkF m 4 #[rv a, .val (.long x), .second, .val (.long y), .second] []) st1 ?_
  refine own_S (mkF m 5 #[rv a, .val (.long x), .second, .val (.long y), .second] [(.long x)]) (fun _ k => XS.lloadN X1.here hx rfl (hb hby d1_4) rfl k) ?_
  refine own_S (mkF m 6 #[rv a, .val (.long x), .second, .val (.long y), .second] [(.long 0), (.long x)]) (fun _ k => XS.lconst X1.here hx rfl (hb hby d1_5) k) ?_
  refine own_S (mkF m 7 #[rv a, .val (.long x), .second, .val (.long y), .second] [(.int (lcmpW x (0 : Int64)))]) (fun _ k => XS.lcmp X1.here hx rfl (hb hby d1_6) rfl k) ?_
  by_cases h1 : x = (0 : Int64)
  · -- x = (0 : Int64)
    refine own_S (mkF m 10 #[rv a, .val (.long x), .second, .val (.long y), .second] []) (fun _ k => XS.ifNo X1.here hx rfl (hb hby d1_7) rfl ((if0 _ _).trans (teq ((lw_eq x (0 : Int64)).mpr h1)).2) k) ?_
    refine own_S (mkF m 11 #[rv a, .val (.long x), .second, .val (.long y), .second] [(.long y)]) (fun _ k => XS.lloadN X1.here hx rfl (hb hby d1_10) rfl k) ?_
    refine own_S (mkF m 12 #[rv a, .val (.long x), .second, .val (.long y), .second] [(.long 0), (.long y)]) (fun _ k => XS.lconst X1.here hx rfl (hb hby d1_11) k) ?_
    refine own_S (mkF m 13 #[rv a, .val (.long x), .second, .val (.long y), .second] [(.int (lcmpW y (0 : Int64)))]) (fun _ k => XS.lcmp X1.here hx rfl (hb hby d1_12) rfl k) ?_
    have hc2 : ¬ (y = (0 : Int64)) := (fun q => hz ⟨h1, q⟩)
    refine own_S (mkF m 26 #[rv a, .val (.long x), .second, .val (.long y), .second] []) (fun _ k => XS.ifYes X1.here hx rfl (pc0 := 13) (pc' := 26) rfl (hb hby d1_13) rfl ((if0 _ _).trans (feq (fun q => hc2 ((lw_eq y (0 : Int64)).mp q))).2) (by decide) (by decide) k) ?_
    refine own_S (mkF m 27 #[rv a, .val (.long x), .second, .val (.long y), .second] [(.ref a)]) (fun _ k => XS.aloadN X1.here hx rfl (hb hby d1_26) rfl rfl k) ?_
    refine own_S (mkF m 28 #[rv a, .val (.long x), .second, .val (.long y), .second] [(.long x), (.ref a)]) (fun _ k => XS.lloadN X1.here hx rfl (hb hby d1_27) rfl k) ?_
    obtain ⟨T3, h3, X3, e3, W3, st3⟩ := putF X1 hx hZ hown (host := "") (Or.inl (own_g hw (i := 9) rfl)) Via.refl e1 P1 P0 (Or.inr ⟨(own_g hw (i := 10) rfl), rfl, hnm⟩) (own_g hw (i := 1) rfl) (ty := .long) (by decide) rfl rfl (g := (mkF m 28 #[rv a, .val (.long x), .second, .val (.long y), .second] [(.long x), (.ref a)])) rfl rfl (hb hby d1_28)
    refine own_S (mkF m 31 #[rv a, .val (.long x), .second, .val (.long y), .second] []) st3 ?_
    have F4 := P0.wr W3
    have F5 := P1.same W3
    have F6 := P2.other W3 (Or.inr (slot_ne (Or.inr (own_g hw (i := 12) rfl)) (Or.inr (own_g hw (i := 10) rfl)) (by decide) (t := .long) (t' := .long) (by decide) (by decide)))
    have N3 := Fr.snoc X3 N0 G_a
    have Z3 : n0 ≤ h3.size := by rw [Wr.size W3]; exact Z0
    have K3 : Keep h0 h3 [a] := (Keep.refl _ _).wr W3 (Or.inl (List.mem_of_getElem? (i := 0) rfl))
    refine own_S (mkF m 32 #[rv a, .val (.long x), .second, .val (.long y), .second] [(.ref a)]) (fun _ k => XS.aloadN X3.here hx rfl (hb hby d1_31) rfl rfl k) ?_
    refine own_S (mkF m 33 #[rv a, .val (.long x), .second, .val (.long y), .second] [(.long y), (.ref a)]) (fun _ k => XS.lloadN X3.here hx rfl (hb hby d1_32) rfl k) ?_
    obtain ⟨T7, h7, X7, e7, W7, st7⟩ := putF X3 hx hZ hown (host := "") (Or.inl (own_g hw (i := 11) rfl)) Via.refl e3 F6 F4 (Or.inr ⟨(own_g hw (i := 12) rfl), rfl, hnm⟩) (own_g hw (i := 1) rfl) (ty := .long) (by decide) rfl rfl (g := (mkF m 33 #[rv a, .val (.long x), .second, .val (.long y), .second] [(.long y), (.ref a)])) rfl rfl (hb hby d1_33)
    refine own_S (mkF m 36 #[rv a, .val (.long x), .second, .val (.long y), .second] []) st7 ?_
    have F8 := F4.wr W7
    have F9 := F5.other W7 (Or.inr (slot_ne (Or.inr (own_g hw (i := 10) rfl)) (Or.inr (own_g hw (i := 12) rfl)) (by decide) (t := .long) (t' := .long) (by decide) (by decide)))
    have F10 := F6.same W7
    have N7 := Fr.snoc X7 N3 G_a
    have Z7 : n0 ≤ h7.size := by rw [Wr.size W7]; exact Z3
    have K7 : Keep h0 h7 [a] := K3.wr W7 (Or.inl (List.mem_of_getElem? (i := 0) rfl))
    exact own_ret0 X7 hx hlk hret (hb hby d1_36) (by rw [e7]; exact ⟨rfl, N7, K7, F8, F9, F10⟩) (by decide) (by decide)
  · -- not x = (0 : Int64)
    refine own_S (mkF m 26 #[rv a, .val (.long x), .second, .val (.long y), .second] []) (fun _ k => XS.ifYes X1.here hx rfl (pc0 := 7) (pc' := 26) rfl (hb hby d1_7) rfl ((if0 _ _).trans (feq (fun q => h1 ((lw_eq x (0 : Int64)).mp q))).2) (by decide) (by decide) k) ?_
    refine own_S (mkF m 27 #[rv a, .val (.long x), .second, .val (.long y), .second] [(.ref a)]) (fun _ k => XS.aloadN X1.here hx rfl (hb hby d1_26) rfl rfl k) ?_
    refine own_S (mkF m 28 #[rv a, .val (.long x), .second, .val (.long y), .second] [(.long x), (.ref a)]) (fun _ k => XS.lloadN X1.here hx rfl (hb hby d1_27) rfl k) ?_
    obtain ⟨T11, h11, X11, e11, W11, st11⟩ := putF X1 hx hZ hown (host := "") (Or.inl (own_g hw (i := 9) rfl)) Via.refl e1 P1 P0 (Or.inr ⟨(own_g hw (i := 10) rfl), rfl, hnm⟩) (own_g hw (i := 1) rfl) (ty := .long) (by decide) rfl rfl (g := (mkF m 28 #[rv a, .val (.long x), .second, .val (.long y), .second] [(.long x), (.ref a)])) rfl rfl (hb hby d1_28)
    refine own_S (mkF m 31 #[rv a, .val (.long x), .second, .val (.long y), .second] []) st11 ?_
    have F12 := P0.wr W11
    have F13 := P1.same W11
    have F14 := P2.other W11 (Or.inr (slot_ne (Or.inr (own_g hw (i := 12) rfl)) (Or.inr (own_g hw (i := 10) rfl)) (by decide) (t := .long) (t' := .long) (by decide) (by decide)))
    have N11 := Fr.snoc X11 N0 G_a
    have Z11 : n0 ≤ h11.size := by rw [Wr.size W11]; exact Z0
    have K11 : Keep h0 h11 [a] := (Keep.refl _ _).wr W11 (Or.inl (List.mem_of_getElem? (i := 0) rfl))
    refine own_S (mkF m 32 #[rv a, .val (.long x), .second, .val (.long y), .second] [(.ref a)]) (fun _ k => XS.aloadN X11.here hx rfl (hb hby d1_31) rfl rfl k) ?_
    refine own_S (mkF m 33 #[rv a, .val (.long x), .second, .val (.long y), .second] [(.long y), (.ref a)]) (fun _ k => XS.lloadN X11.here hx rfl (hb hby d1_32) rfl k) ?_
    obtain ⟨T15, h15, X15, e15, W15, st15⟩ := putF X11 hx hZ hown (host := "") (Or.inl (own_g hw (i := 11) rfl)) Via.refl e11 F14 F12 (Or.inr ⟨(own_g hw (i := 12) rfl), rfl, hnm⟩) (own_g hw (i := 1) rfl) (ty := .long) (by decide) rfl rfl (g := (mkF m 33 #[rv a, .val (.long x), .second, .val (.long y), .second] [(.long y), (.ref a)])) rfl rfl (hb hby d1_33)
    refine own_S (mkF m 36 #[rv a, .val (.long x), .second, .val (.long y), .second] []) st15 ?_
    have F16 := F12.wr W15
    have F17 := F13.other W15 (Or.inr (slot_ne (Or.inr (own_g hw (i := 10) rfl)) (Or.inr (own_g hw (i := 12) rfl)) (by decide) (t := .long) (t' := .long) (by decide) (by decide)))
    have F18 := F14.same W15
    have N15 := Fr.snoc X15 N11 G_a
    have Z15 : n0 ≤ h15.size := by rw [Wr.size W15]; exact Z11
    have K15 : Keep h0 h15 [a] := K11.wr W15 (Or.inl (List.mem_of_getElem? (i := 0) rfl))
    exact own_ret0 X15 hx hlk hret (hb hby d1_36) (by rw [e15]; exact ⟨rfl, N15, K15, F16, F17, F18⟩) (by decide) (by decide)
theorem d6_0 : decode jdk_18_method_1_code 0 = .ok (.aload_n 0, 1) := by decide +kernel
theorem d6_1 : decode jdk_18_method_1_code 1 = .ok (.invokespecial 1, 3) := by decide +kernel
theorem d6_4 : decode jdk_18_method_1_code 4 = .ok (.return_, 1) := by decide +kernel
theorem own_pn_java_lang_Number : plainName "java/lang/Number" = true := by first | (simp [plainName, overriddenIn]; done) | decide +kernel
theorem own_ef_nu (m : MethodId) (y0 : Addr) : entryFrame m #[(.ref y0)] 1 = mkF m 0 #[rv y0] [] := by first | (simp [entryFrame, mkF, argsToLocals, Value.category]; done) | rfl
def own_Qnu (Z : State) (a : Addr) (h0 : Heap) (n0 : Nat) (v : Option Value) (h : Heap) (L : List Loc) : Prop := v = none ∧ Fr n0 L ∧ h = h0
set_option maxRecDepth 65536 in
set_option maxHeartbeats 40000000 in
theorem own_rmnu (l : Launch) (Z : State) (a0 : Array Value) (hw : ∀ d ∈ tables_1, d.before a0 Z = true) (ws : List Jvm.Cond) (a : Addr) (h0 : Heap) (n0 : Nat) (Z0 : n0 ≤ h0.size)  :
    MetFree l own_y1 (head1 (Jvm.Cond.code own_y1 jdk_18_method_1_code 1 none :: ws) ({ frames := 1, cells := 0, slots := 0, locals := 12 } : Room)) (fun az Uz => az = #[(.ref a)] ∧ Z.Warmed39 Uz.vm ∧ Uz.heap = h0) (fun _ _ _ _ _ => True) (fun _ U o U' => ∃ v L, o = .returned v ∧ own_Qnu Z a h0 n0 v U'.heap L ∧ FrameEnd U o U' L ({ frames := 1, cells := 0, slots := 0, locals := 12 } : Room).cells ({ frames := 1, cells := 0, slots := 0, locals := 12 } : Room).slots) := by
  refine MetFree.of_bodySF (plainFor_of_name own_pn_java_lang_Number) hisR ?_
  intro p e s m args below meth c s₁ Bd hml0 hP hK
  obtain ⟨rfl, hZ, hh⟩ := hP
  have hx := Bd.exec
  have hby := Bd.bytes
  have hml : c.maxLocals = 1 := hml0
  have hown : s.vm.findClass "java/lang/Number" = some m.cls := findClass_of_methodNamed Bd.named
  have hnm := (name_of_methodNamed Bd.named Bd.method).1
  have hlk : meth.locks = false := BodyLoose.notSynchronized Bd
  have hret := Bd.returns
  have X0 : Stand p l e ({ frames := 1, cells := 0, slots := 0, locals := 12 } : Room) s m #[(.ref a)] below meth c s₁ [] 0 0 := Stand.of_body Bd
  have e0 : s₁.heap = h0 := by rw [← hh, Bd.state]; rfl
  have N0 := Fr.nil n0
  show own_E p e below (own_K s (own_Qnu Z a h0 n0) ({ frames := 1, cells := 0, slots := 0, locals := 12 } : Room).cells ({ frames := 1, cells := 0, slots := 0, locals := 12 } : Room).slots) s₁ (entryFrame m #[(.ref a)] 1)
  refine own_S (mkF m 0 #[rv a] []) (fun _ k => castTop (own_ef_nu m (a)) k) ?_
  refine own_S (mkF m 1 #[rv a] [(.ref a)]) (fun _ k => XS.aloadN X0.here hx rfl (hb hby d6_0) rfl rfl k) ?_
  obtain ⟨T1, X1, e1, st1⟩ := initO X0 hx hZ hown (own_g hw (i := 43) rfl) (own_g hw (i := 7) rfl) (own_g hw (i := 8) rfl) e0 (g := (mkF m 1 #[rv a] [(.ref a)])) rfl (by rw [hml]; rfl) rfl (hb hby d6_1) (by decide) (W := 0) (by show 2 * 0 + _ ≤ _; exact Nat.le_of_eq rfl) (by decide)
  refine own_S (mkF m 4 #[rv a] []) st1 ?_
  exact own_ret0 X1 hx hlk hret (hb hby d6_4) (by rw [e1]; exact ⟨rfl, N0, rfl⟩) (by decide) (by decide)
theorem d5_0 : decode jdk_35_method_26_code 0 = .ok (.aload_n 0, 1) := by decide +kernel
theorem d5_1 : decode jdk_35_method_26_code 1 = .ok (.invokespecial 270, 3) := by decide +kernel
theorem d5_4 : decode jdk_35_method_26_code 4 = .ok (.aload_n 0, 1) := by decide +kernel
theorem d5_5 : decode jdk_35_method_26_code 5 = .ok (.lload_n 1, 1) := by decide +kernel
theorem d5_6 : decode jdk_35_method_26_code 6 = .ok (.putfield 273, 3) := by decide +kernel
theorem d5_9 : decode jdk_35_method_26_code 9 = .ok (.return_, 1) := by decide +kernel
theorem own_pd___V : parseMethodDescriptor "()V" = some ⟨[], none⟩ := by decide +kernel
theorem own_pn_java_lang_Long : plainName "java/lang/Long" = true := by first | (simp [plainName, overriddenIn]; done) | decide +kernel
theorem own_ef_li (m : MethodId) (y0 : Addr) (y1 : Int64) : entryFrame m #[(.ref y0), (.long y1)] 3 = mkF m 0 #[rv y0, .val (.long y1), .second] [] := by first | (simp [entryFrame, mkF, argsToLocals, Value.category]; done) | rfl
def own_Qli (Z : State) (a : Addr) (x : Int64) (u1 : Value) (h0 : Heap) (n0 : Nat) (v : Option Value) (h : Heap) (L : List Loc) : Prop := v = none ∧ Fr n0 L ∧ Keep h0 h [a] ∧ Exa Z h a "java/lang/Long" ∧ Fld Z h a "java/lang/Long" "value" "J" (.long x)
set_option maxRecDepth 65536 in
set_option maxHeartbeats 40000000 in
theorem own_rmli (l : Launch) (Z : State) (a0 : Array Value) (hw : ∀ d ∈ tables_1, d.before a0 Z = true) (ws : List Jvm.Cond) (a : Addr) (x : Int64) (u1 : Value) (h0 : Heap) (n0 : Nat) (Z0 : n0 ≤ h0.size) (P0 : Exa Z h0 a "java/lang/Long") (P1 : Fld Z h0 a "java/lang/Long" "value" "J" u1) (G_a : n0 ≤ a) :
    MetFree l own_y2 (head1 (Jvm.Cond.code own_y2 jdk_35_method_26_code 3 none :: ws) ({ frames := 2, cells := 0, slots := 0, locals := 24 } : Room)) (fun az Uz => az = #[(.ref a), (.long x)] ∧ Z.Warmed39 Uz.vm ∧ Uz.heap = h0) (fun _ _ _ _ _ => True) (fun _ U o U' => ∃ v L, o = .returned v ∧ own_Qli Z a x u1 h0 n0 v U'.heap L ∧ FrameEnd U o U' L ({ frames := 2, cells := 0, slots := 0, locals := 24 } : Room).cells ({ frames := 2, cells := 0, slots := 0, locals := 24 } : Room).slots) := by
  refine MetFree.of_bodySF (plainFor_of_name own_pn_java_lang_Long) hisR ?_
  intro p e s m args below meth c s₁ Bd hml0 hP hK
  obtain ⟨rfl, hZ, hh⟩ := hP
  have hx := Bd.exec
  have hby := Bd.bytes
  have hml : c.maxLocals = 3 := hml0
  have hown : s.vm.findClass "java/lang/Long" = some m.cls := findClass_of_methodNamed Bd.named
  have hnm := (name_of_methodNamed Bd.named Bd.method).1
  have hlk : meth.locks = false := BodyLoose.notSynchronized Bd
  have hret := Bd.returns
  have X0 : Stand p l e ({ frames := 2, cells := 0, slots := 0, locals := 24 } : Room) s m #[(.ref a), (.long x)] below meth c s₁ [] 0 0 := Stand.of_body Bd
  have e0 : s₁.heap = h0 := by rw [← hh, Bd.state]; rfl
  have N0 := Fr.nil n0
  show own_E p e below (own_K s (own_Qli Z a x u1 h0 n0) ({ frames := 2, cells := 0, slots := 0, locals := 24 } : Room).cells ({ frames := 2, cells := 0, slots := 0, locals := 24 } : Room).slots) s₁ (entryFrame m #[(.ref a), (.long x)] 3)
  refine own_S (mkF m 0 #[rv a, .val (.long x), .second] []) (fun _ k => castTop (own_ef_li m (a) (x)) k) ?_
  refine own_S (mkF m 1 #[rv a, .val (.long x), .second] [(.ref a)]) (fun _ k => XS.aloadN X0.here hx rfl (hb hby d5_0) rfl rfl k) ?_
  obtain ⟨_, _, ⟨T1, L1, k1, n1⟩, -, X1, ⟨Lc1, hQ1, l1, y1, z1⟩, st1⟩ := X0.specialBack hx (y := own_y1) rfl hown (mvT hZ (own_g hw (i := 37) rfl)) (mvT hZ (own_g hw (i := 38) rfl)) (mvT hZ (own_g hw (i := 42) rfl)) (by decide) (backOf (W := 0) (own_rmnu l Z a0 hw [] (a) h0 n0 Z0 ) hZ (own_g hw (i := 42) rfl) (own_g hw (i := 41) rfl) (by decide) (by decide)) (g := (mkF m 1 #[rv a, .val (.long x), .second] [(.ref a)])) rfl (by rw [hml]; rfl) (Steps.refl _) (a := a) (argsL := []) (rest := []) (lenOf own_pd___V rfl) rfl (by show 2 * 0 + _ ≤ _; exact Nat.le_of_eq rfl) (hb hby d5_1) (fun _ _ => ⟨rfl, e0, (by decide : 0 + 0 ≤ _), (by decide : 0 + 0 ≤ _)⟩)
  dsimp only [Pt.U, Pt.locs, Pt.cells, Pt.slots] at X1 l1 y1 z1 st1 hQ1
  subst l1 y1 z1
  obtain ⟨rfl, N1q, e1⟩ := hQ1
  have N1 := Fr.app N0 N1q
  refine own_S (mkF m 4 #[rv a, .val (.long x), .second] []) (fun _ k => st1.trans k) ?_
  refine own_S (mkF m 5 #[rv a, .val (.long x), .second] [(.ref a)]) (fun _ k => XS.aloadN X1.here hx rfl (hb hby d5_4) rfl rfl k) ?_
  refine own_S (mkF m 6 #[rv a, .val (.long x), .second] [(.long x), (.ref a)]) (fun _ k => XS.lloadN X1.here hx rfl (hb hby d5_5) rfl k) ?_
  obtain ⟨T2, h2, X2, e2, W2, st2⟩ := putF X1 hx hZ hown (host := "") (Or.inl (own_g hw (i := 44) rfl)) Via.refl e1 P1 P0 (Or.inr ⟨(own_g hw (i := 45) rfl), rfl, hnm⟩) (own_g hw (i := 32) rfl) (ty := .long) (by decide) rfl rfl (g := (mkF m 6 #[rv a, .val (.long x), .second] [(.long x), (.ref a)])) rfl rfl (hb hby d5_6)
  refine own_S (mkF m 9 #[rv a, .val (.long x), .second] []) st2 ?_
  have F3 := P0.wr W2
  have F4 := P1.same W2
  have N2 := Fr.snoc X2 N1 G_a
  have Z2 : n0 ≤ h2.size := by rw [Wr.size W2]; exact Z0
  have K2 : Keep h0 h2 [a] := (Keep.refl _ _).wr W2 (Or.inl (List.mem_of_getElem? (i := 0) rfl))
  exact own_ret0 X2 hx hlk hret (hb hby d5_9) (by rw [e2]; exact ⟨rfl, N2, K2, F3, F4⟩) (by decide) (by decide)
theorem d3_0 : decode jdk_35_method_24_code 0 = .ok (.sipush 128, 3) := by decide +kernel
theorem d3_3 : decode jdk_35_method_24_code 3 = .ok (.istore_n 2, 1) := by decide +kernel
theorem d3_4 : decode jdk_35_method_24_code 4 = .ok (.lload_n 0, 1) := by decide +kernel
theorem d3_5 : decode jdk_35_method_24_code 5 = .ok (.ldc2_w 230, 3) := by decide +kernel
theorem d3_8 : decode jdk_35_method_24_code 8 = .ok (.lcmp, 1) := by decide +kernel
theorem d3_9 : decode jdk_35_method_24_code 9 = .ok (.ifCond .lt 22, 3) := by decide +kernel
theorem d3_12 : decode jdk_35_method_24_code 12 = .ok (.lload_n 0, 1) := by decide +kernel
theorem d3_13 : decode jdk_35_method_24_code 13 = .ok (.ldc2_w 232, 3) := by decide +kernel
theorem d3_16 : decode jdk_35_method_24_code 16 = .ok (.lcmp, 1) := by decide +kernel
theorem d3_17 : decode jdk_35_method_24_code 17 = .ok (.ifCond .gt 14, 3) := by decide +kernel
theorem d3_20 : decode jdk_35_method_24_code 20 = .ok (.getstatic 234, 3) := by decide +kernel
theorem d3_23 : decode jdk_35_method_24_code 23 = .ok (.lload_n 0, 1) := by decide +kernel
theorem d3_24 : decode jdk_35_method_24_code 24 = .ok (.l2i, 1) := by decide +kernel
theorem d3_25 : decode jdk_35_method_24_code 25 = .ok (.sipush 128, 3) := by decide +kernel
theorem d3_28 : decode jdk_35_method_24_code 28 = .ok (.iadd, 1) := by decide +kernel
theorem d3_29 : decode jdk_35_method_24_code 29 = .ok (.aaload, 1) := by decide +kernel
theorem d3_30 : decode jdk_35_method_24_code 30 = .ok (.areturn, 1) := by decide +kernel
theorem d3_31 : decode jdk_35_method_24_code 31 = .ok (.new 1, 3) := by decide +kernel
theorem d3_34 : decode jdk_35_method_24_code 34 = .ok (.dup, 1) := by decide +kernel
theorem d3_35 : decode jdk_35_method_24_code 35 = .ok (.lload_n 0, 1) := by decide +kernel
theorem d3_36 : decode jdk_35_method_24_code 36 = .ok (.invokespecial 240, 3) := by decide +kernel
theorem d3_39 : decode jdk_35_method_24_code 39 = .ok (.areturn, 1) := by decide +kernel
theorem own_pd__J_V : parseMethodDescriptor "(J)V" = some ⟨[.long], none⟩ := by decide +kernel
theorem own_ef_vo (m : MethodId) (y0 : Int64) : entryFrame m #[(.long y0)] 3 = mkF m 0 #[.val (.long y0), .second, .unset] [] := by first | (simp [entryFrame, mkF, argsToLocals, Value.category]; done) | rfl
def own_Qvo (Z : State) (x : Int64) (ca : Addr) (h0 : Heap) (n0 : Nat) (v : Option Value) (h : Heap) (L : List Loc) : Prop := ∃ (r : Addr), v = some (.ref r) ∧ Fr n0 L ∧ Keep h0 h [] ∧ Exa Z h r "java/lang/Long" ∧ Fld Z h r "java/lang/Long" "value" "J" (.long x)
set_option maxRecDepth 65536 in
set_option maxHeartbeats 40000000 in
theorem own_rmvo (l : Launch) (Z : State) (a0 : Array Value) (hw : ∀ d ∈ tables_1, d.before a0 Z = true) (ws : List Jvm.Cond) (x : Int64) (ca : Addr) (h0 : Heap) (n0 : Nat) (Z0 : n0 ≤ h0.size) (P0 : Old Z n0 h0) (hS : Sta Z Z.heap "java/lang/Long$LongCache" "cache" "[Ljava/lang/Long;" (.ref ca)) (hC : own_Cache Z ca) :
    MetFree l own_y3 (head1 (Jvm.Cond.code own_y3 jdk_35_method_24_code 3 (some (.object "java/lang/Long")) :: ws) ({ frames := 3, cells := 1, slots := 1, locals := 39 } : Room)) (fun az Uz => az = #[(.long x)] ∧ Z.Warmed39 Uz.vm ∧ Uz.heap = h0) (fun _ _ _ _ _ => True) (fun _ U o U' => ∃ v L, o = .returned v ∧ own_Qvo Z x ca h0 n0 v U'.heap L ∧ FrameEnd U o U' L ({ frames := 3, cells := 1, slots := 1, locals := 39 } : Room).cells ({ frames := 3, cells := 1, slots := 1, locals := 39 } : Room).slots) := by
  refine MetFree.of_bodySF (plainFor_of_name own_pn_java_lang_Long) hisR ?_
  intro p e s m args below meth c s₁ Bd hml0 hP hK
  obtain ⟨rfl, hZ, hh⟩ := hP
  have hx := Bd.exec
  have hby := Bd.bytes
  have hml : c.maxLocals = 3 := hml0
  have hown : s.vm.findClass "java/lang/Long" = some m.cls := findClass_of_methodNamed Bd.named
  have hnm := (name_of_methodNamed Bd.named Bd.method).1
  have hlk : meth.locks = false := BodyLoose.notSynchronized Bd
  have hret := Bd.returns
  have X0 : Stand p l e ({ frames := 3, cells := 1, slots := 1, locals := 39 } : Room) s m #[(.long x)] below meth c s₁ [] 0 0 := Stand.of_body Bd
  have e0 : s₁.heap = h0 := by rw [← hh, Bd.state]; rfl
  have N0 := Fr.nil n0
  show own_E p e below (own_K s (own_Qvo Z x ca h0 n0) ({ frames := 3, cells := 1, slots := 1, locals := 39 } : Room).cells ({ frames := 3, cells := 1, slots := 1, locals := 39 } : Room).slots) s₁ (entryFrame m #[(.long x)] 3)
  refine own_S (mkF m 0 #[.val (.long x), .second, .unset] []) (fun _ k => castTop (own_ef_vo m (x)) k) ?_
  refine own_S (mkF m 3 #[.val (.long x), .second, .unset] [(.int 128)]) (fun _ k => XS.sipush X0.here hx rfl (hb hby d3_0) k) ?_
  refine own_S (mkF m 4 #[.val (.long x), .second, .val (.int 128)] []) (fun _ k => XS.istoreN X0.here hx rfl (hb hby d3_3) rfl (l' := #[.val (.long x), .second, .val (.int 128)]) rfl k) ?_
  refine own_S (mkF m 5 #[.val (.long x), .second, .val (.int 128)] [(.long x)]) (fun _ k => XS.lloadN X0.here hx rfl (hb hby d3_4) rfl k) ?_
  refine own_S (mkF m 8 #[.val (.long x), .second, .val (.int 128)] [(.long (-128)), (.long x)]) (fun _ k => X0.ldc2Long hx hown (mvT hZ (own_g hw (i := 17) rfl)) (g := (mkF m 5 #[.val (.long x), .second, .val (.int 128)] [(.long x)])) rfl (hb hby d3_5) _ k) ?_
  refine own_S (mkF m 9 #[.val (.long x), .second, .val (.int 128)] [(.int (lcmpW x (-128 : Int64)))]) (fun _ k => XS.lcmp X0.here hx rfl (hb hby d3_8) rfl k) ?_
  by_cases h1 : x < (-128 : Int64)
  · -- x < (-128 : Int64)
    refine own_S (mkF m 31 #[.val (.long x), .second, .val (.int 128)] []) (fun _ k => XS.ifYes X0.here hx rfl (pc0 := 9) (pc' := 31) rfl (hb hby d3_9) rfl ((if0 _ _).trans (tlt ((lw_lt x (-128 : Int64)).mpr h1)).1) (by decide) (by decide) k) ?_
    obtain ⟨T1, h1, X1, e1, E1, A1, D1, -, st1⟩ := newO X0 hx hZ hown (own_g hw (i := 31) rfl) (own_g hw (i := 32) rfl) (own_g hw (i := 15) rfl) e0 (g := (mkF m 31 #[.val (.long x), .second, .val (.int 128)] [])) rfl (hb hby d3_31) (by decide) (by decide)
    obtain ⟨r, g1⟩ : ∃ z, z = h0.size := ⟨_, rfl⟩
    rw [← g1] at A1 D1 st1
    have ge_r : n0 ≤ r := Nat.le_trans Z0 (Nat.le_of_eq g1.symm)
    have fr_r : h0.size ≤ r := Nat.le_trans (Keep.refl h0 []).1 (Nat.le_of_eq g1.symm)
    have K1 : Keep h0 h1 [] := (Keep.refl _ _).ext E1
    have F2 := P0.ext E1
    have Z1 : n0 ≤ h1.size := Nat.le_trans Z0 E1.1
    have F3 : Fld Z h1 r "java/lang/Long" "value" "J" (.long (0 : Int64)) := D1 (Or.inr (own_g hw (i := 45) rfl)) (ty := .long) (by decide)
    refine own_S (mkF m 34 #[.val (.long x), .second, .val (.int 128)] [(.ref r)]) st1 ?_
    refine own_S (mkF m 35 #[.val (.long x), .second, .val (.int 128)] [(.ref r), (.ref r)]) (fun _ k => XS.dup X1.here hx rfl (hb hby d3_34) rfl rfl k) ?_
    refine own_S (mkF m 36 #[.val (.long x), .second, .val (.int 128)] [(.long x), (.ref r), (.ref r)]) (fun _ k => XS.lloadN X1.here hx rfl (hb hby d3_35) rfl k) ?_
    obtain ⟨_, _, ⟨T4, L4, k4, n4⟩, -, X4, ⟨Lc4, hQ4, l4, y4, z4⟩, st4⟩ := X1.specialBack hx (y := own_y2) rfl hown (mvT hZ (own_g hw (i := 33) rfl)) (mvT hZ (own_g hw (i := 34) rfl)) (mvT hZ (own_g hw (i := 36) rfl)) (by decide) (backOf (W := 1) (own_rmli l Z a0 hw [] (r) (x) ((.long (0 : Int64))) h1 n0 Z1 A1 F3 ge_r) hZ (own_g hw (i := 36) rfl) (own_g hw (i := 15) rfl) (by decide) (by decide)) (g := (mkF m 36 #[.val (.long x), .second, .val (.int 128)] [(.long x), (.ref r), (.ref r)])) rfl (by rw [hml]; rfl) (Steps.refl _) (a := r) (argsL := [(.long x)]) (rest := [(.ref r)]) (lenOf own_pd__J_V rfl) rfl (by show 2 * 0 + _ ≤ _; exact Nat.le_of_eq rfl) (hb hby d3_36) (fun _ _ => ⟨rfl, e1, (by decide : 1 + 0 ≤ _), (by decide : 1 + 0 ≤ _)⟩)
    dsimp only [Pt.U, Pt.locs, Pt.cells, Pt.slots] at X4 l4 y4 z4 st4 hQ4
    subst l4 y4 z4
    obtain ⟨rfl, N4q, K4q, F5, F6⟩ := hQ4
    have N4 := Fr.app N0 N4q
    refine own_S (mkF m 39 #[.val (.long x), .second, .val (.int 128)] [(.ref r)]) (fun _ k => st4.trans k) ?_
    have K4 : Keep h0 T4.heap [] := K1.trans K4q (allS (Or.inr fr_r) all0)
    have F7 := F2.keep K4q (allS ge_r all0)
    have Z4 : n0 ≤ T4.heap.size := Nat.le_trans Z1 K4q.1
    exact own_ret X4 hx hlk (t := (.object "java/lang/Long")) hret rfl (Or.inr (Or.inr (Or.inr (Or.inr ⟨rfl, rfl, rfl⟩)))) (hb hby d3_39) ⟨r, rfl, N4, K4, F5, F6⟩ (by decide) (by decide)
  · -- not x < (-128 : Int64)
    refine own_S (mkF m 12 #[.val (.long x), .second, .val (.int 128)] []) (fun _ k => XS.ifNo X0.here hx rfl (hb hby d3_9) rfl ((if0 _ _).trans (flt (fun q => h1 ((lw_lt x (-128 : Int64)).mp q))).1) k) ?_
    refine own_S (mkF m 13 #[.val (.long x), .second, .val (.int 128)] [(.long x)]) (fun _ k => XS.lloadN X0.here hx rfl (hb hby d3_12) rfl k) ?_
    refine own_S (mkF m 16 #[.val (.long x), .second, .val (.int 128)] [(.long 127), (.long x)]) (fun _ k => X0.ldc2Long hx hown (mvT hZ (own_g hw (i := 18) rfl)) (g := (mkF m 13 #[.val (.long x), .second, .val (.int 128)] [(.long x)])) rfl (hb hby d3_13) _ k) ?_
    refine own_S (mkF m 17 #[.val (.long x), .second, .val (.int 128)] [(.int (lcmpW x (127 : Int64)))]) (fun _ k => XS.lcmp X0.here hx rfl (hb hby d3_16) rfl k) ?_
    by_cases h2 : (127 : Int64) < x
    · -- (127 : Int64) < x
      refine own_S (mkF m 31 #[.val (.long x), .second, .val (.int 128)] []) (fun _ k => XS.ifYes X0.here hx rfl (pc0 := 17) (pc' := 31) rfl (hb hby d3_17) rfl ((if0 _ _).trans (tlt ((lw_gt x (127 : Int64)).mpr h2)).2.2.1) (by decide) (by decide) k) ?_
      obtain ⟨T8, h8, X8, e8, E8, A8, D8, -, st8⟩ := newO X0 hx hZ hown (own_g hw (i := 31) rfl) (own_g hw (i := 32) rfl) (own_g hw (i := 15) rfl) e0 (g := (mkF m 31 #[.val (.long x), .second, .val (.int 128)] [])) rfl (hb hby d3_31) (by decide) (by decide)
      obtain ⟨r, g8⟩ : ∃ z, z = h0.size := ⟨_, rfl⟩
      rw [← g8] at A8 D8 st8
      have ge_r : n0 ≤ r := Nat.le_trans Z0 (Nat.le_of_eq g8.symm)
      have fr_r : h0.size ≤ r := Nat.le_trans (Keep.refl h0 []).1 (Nat.le_of_eq g8.symm)
      have K8 : Keep h0 h8 [] := (Keep.refl _ _).ext E8
      have F9 := P0.ext E8
      have Z8 : n0 ≤ h8.size := Nat.le_trans Z0 E8.1
      have F10 : Fld Z h8 r "java/lang/Long" "value" "J" (.long (0 : Int64)) := D8 (Or.inr (own_g hw (i := 45) rfl)) (ty := .long) (by decide)
      refine own_S (mkF m 34 #[.val (.long x), .second, .val (.int 128)] [(.ref r)]) st8 ?_
      refine own_S (mkF m 35 #[.val (.long x), .second, .val (.int 128)] [(.ref r), (.ref r)]) (fun _ k => XS.dup X8.here hx rfl (hb hby d3_34) rfl rfl k) ?_
      refine own_S (mkF m 36 #[.val (.long x), .second, .val (.int 128)] [(.long x), (.ref r), (.ref r)]) (fun _ k => XS.lloadN X8.here hx rfl (hb hby d3_35) rfl k) ?_
      obtain ⟨_, _, ⟨T11, L11, k11, n11⟩, -, X11, ⟨Lc11, hQ11, l11, y11, z11⟩, st11⟩ := X8.specialBack hx (y := own_y2) rfl hown (mvT hZ (own_g hw (i := 33) rfl)) (mvT hZ (own_g hw (i := 34) rfl)) (mvT hZ (own_g hw (i := 36) rfl)) (by decide) (backOf (W := 1) (own_rmli l Z a0 hw [] (r) (x) ((.long (0 : Int64))) h8 n0 Z8 A8 F10 ge_r) hZ (own_g hw (i := 36) rfl) (own_g hw (i := 15) rfl) (by decide) (by decide)) (g := (mkF m 36 #[.val (.long x), .second, .val (.int 128)] [(.long x), (.ref r), (.ref r)])) rfl (by rw [hml]; rfl) (Steps.refl _) (a := r) (argsL := [(.long x)]) (rest := [(.ref r)]) (lenOf own_pd__J_V rfl) rfl (by show 2 * 0 + _ ≤ _; exact Nat.le_of_eq rfl) (hb hby d3_36) (fun _ _ => ⟨rfl, e8, (by decide : 1 + 0 ≤ _), (by decide : 1 + 0 ≤ _)⟩)
      dsimp only [Pt.U, Pt.locs, Pt.cells, Pt.slots] at X11 l11 y11 z11 st11 hQ11
      subst l11 y11 z11
      obtain ⟨rfl, N11q, K11q, F12, F13⟩ := hQ11
      have N11 := Fr.app N0 N11q
      refine own_S (mkF m 39 #[.val (.long x), .second, .val (.int 128)] [(.ref r)]) (fun _ k => st11.trans k) ?_
      have K11 : Keep h0 T11.heap [] := K8.trans K11q (allS (Or.inr fr_r) all0)
      have F14 := F9.keep K11q (allS ge_r all0)
      have Z11 : n0 ≤ T11.heap.size := Nat.le_trans Z8 K11q.1
      exact own_ret X11 hx hlk (t := (.object "java/lang/Long")) hret rfl (Or.inr (Or.inr (Or.inr (Or.inr ⟨rfl, rfl, rfl⟩)))) (hb hby d3_39) ⟨r, rfl, N11, K11, F12, F13⟩ (by decide) (by decide)
    · -- not (127 : Int64) < x
      refine own_S (mkF m 20 #[.val (.long x), .second, .val (.int 128)] []) (fun _ k => XS.ifNo X0.here hx rfl (hb hby d3_17) rfl ((if0 _ _).trans (flt (fun q => h2 ((lw_gt x (127 : Int64)).mp q))).2.2.1) k) ?_
      have hS0 := hS.ext P0.2
      obtain ⟨T15, X15, e15, st15⟩ := getS (host := "") X0 hx hZ hown (own_g hw (i := 19) rfl) Via.refl e0 hS0 (g := (mkF m 20 #[.val (.long x), .second, .val (.int 128)] [])) rfl (hb hby d3_20)
      refine own_S (mkF m 23 #[.val (.long x), .second, .val (.int 128)] [(.ref ca)]) st15 ?_
      refine own_S (mkF m 24 #[.val (.long x), .second, .val (.int 128)] [(.long x), (.ref ca)]) (fun _ k => XS.lloadN X15.here hx rfl (hb hby d3_23) rfl k) ?_
      refine own_S (mkF m 25 #[.val (.long x), .second, .val (.int 128)] [(.int ((x).toInt32)), (.ref ca)]) (fun _ k => XS.l2i X15.here hx rfl (hb hby d3_24) rfl k) ?_
      refine own_S (mkF m 28 #[.val (.long x), .second, .val (.int 128)] [(.int 128), (.int ((x).toInt32)), (.ref ca)]) (fun _ k => XS.sipush X15.here hx rfl (hb hby d3_25) k) ?_
      refine own_S (mkF m 29 #[.val (.long x), .second, .val (.int 128)] [(.int (((x).toInt32) + (128 : Int32))), (.ref ca)]) (fun _ k => XS.iadd X15.here hx rfl (hb hby d3_28) rfl k) ?_
      obtain ⟨cl, BX⟩ := hC
      obtain ⟨r, hr, Er, Fr0⟩ := own_look BX P0.2 x h1 h2
      have A := BX.1.ext P0.2
      refine own_S (mkF m 30 #[.val (.long x), .second, .val (.int 128)] [(.ref r)]) (fun _ k => X15.aaload hx (by rw [e15]; exact A.1) (State.isArrayOf_alike hZ.alike A.2.1) rfl A.2.2 (own_inC x h1 h2 BX.2.1) hr (g := (mkF m 29 #[.val (.long x), .second, .val (.int 128)] [(.int (((x).toInt32) + (128 : Int32))), (.ref ca)])) rfl rfl (hb hby d3_29) _ k) ?_
      exact own_ret X15 hx hlk (t := (.object "java/lang/Long")) hret rfl (Or.inr (Or.inr (Or.inr (Or.inr ⟨rfl, rfl, rfl⟩)))) (hb hby d3_30) (by rw [e15]; exact ⟨r, rfl, N0, Keep.refl _ _, Er, Fr0⟩) (by decide) (by decide)
theorem d4_0 : decode prog_28_method_6_code 0 = .ok (.aload_n 0, 1) := by decide +kernel
theorem d4_1 : decode prog_28_method_6_code 1 = .ok (.aload_n 1, 1) := by decide +kernel
theorem d4_2 : decode prog_28_method_6_code 2 = .ok (.if_acmp .ne 5, 3) := by decide +kernel
theorem d4_5 : decode prog_28_method_6_code 5 = .ok (.iconst 1, 1) := by decide +kernel
theorem d4_6 : decode prog_28_method_6_code 6 = .ok (.ireturn, 1) := by decide +kernel
theorem own_ef_e1 (m : MethodId) (y0 : Addr) (y1 : Addr) : entryFrame m #[(.ref y0), (.ref y1)] 3 = mkF m 0 #[rv y0, rv y1, .unset] [] := by first | (simp [entryFrame, mkF, argsToLocals, Value.category]; done) | rfl
def own_Qe1 (Z : State) (a : Addr) (h0 : Heap) (n0 : Nat) (v : Option Value) (h : Heap) (L : List Loc) : Prop := v = some (.int (1 : Int32)) ∧ Fr n0 L ∧ h = h0
set_option maxRecDepth 65536 in
set_option maxHeartbeats 40000000 in
theorem own_rme1 (l : Launch) (Z : State) (a0 : Array Value) (hw : ∀ d ∈ tables_1, d.before a0 Z = true) (ws : List Jvm.Cond) (a : Addr) (h0 : Heap) (n0 : Nat) (Z0 : n0 ≤ h0.size)  :
    MetFree l own_y4 (head1 (Jvm.Cond.code own_y4 prog_28_method_6_code 3 (some .boolean) :: ws) ({ frames := 0, cells := 0, slots := 0, locals := 0 } : Room)) (fun az Uz => az = #[(.ref a), (.ref a)] ∧ Z.Warmed39 Uz.vm ∧ Uz.heap = h0) (fun _ _ _ _ _ => True) (fun _ U o U' => ∃ v L, o = .returned v ∧ own_Qe1 Z a h0 n0 v U'.heap L ∧ FrameEnd U o U' L ({ frames := 0, cells := 0, slots := 0, locals := 0 } : Room).cells ({ frames := 0, cells := 0, slots := 0, locals := 0 } : Room).slots) := by
  refine MetFree.of_bodySF (plainFor_of_name own_pn_com_example_stickler_stickler_metadata_TopicId) hisR ?_
  intro p e s m args below meth c s₁ Bd hml0 hP hK
  obtain ⟨rfl, hZ, hh⟩ := hP
  have hx := Bd.exec
  have hby := Bd.bytes
  have hml : c.maxLocals = 3 := hml0
  have hown : s.vm.findClass "com/example/stickler/stickler/metadata/TopicId" = some m.cls := findClass_of_methodNamed Bd.named
  have hnm := (name_of_methodNamed Bd.named Bd.method).1
  have hlk : meth.locks = false := BodyLoose.notSynchronized Bd
  have hret := Bd.returns
  have X0 : Stand p l e ({ frames := 0, cells := 0, slots := 0, locals := 0 } : Room) s m #[(.ref a), (.ref a)] below meth c s₁ [] 0 0 := Stand.of_body Bd
  have e0 : s₁.heap = h0 := by rw [← hh, Bd.state]; rfl
  have N0 := Fr.nil n0
  show own_E p e below (own_K s (own_Qe1 Z a h0 n0) ({ frames := 0, cells := 0, slots := 0, locals := 0 } : Room).cells ({ frames := 0, cells := 0, slots := 0, locals := 0 } : Room).slots) s₁ (entryFrame m #[(.ref a), (.ref a)] 3)
  refine own_S (mkF m 0 #[rv a, rv a, .unset] []) (fun _ k => castTop (own_ef_e1 m (a) (a)) k) ?_
  refine own_S (mkF m 1 #[rv a, rv a, .unset] [(.ref a)]) (fun _ k => XS.aloadN X0.here hx rfl (hb hby d4_0) rfl rfl k) ?_
  refine own_S (mkF m 2 #[rv a, rv a, .unset] [(.ref a), (.ref a)]) (fun _ k => XS.aloadN X0.here hx rfl (hb hby d4_1) rfl rfl k) ?_
  have hc1 : a = a := rfl
  refine own_S (mkF m 5 #[rv a, rv a, .unset] []) (fun _ k => acmp X0 hx rfl rfl rfl (pc0 := 2) (pc' := 5) (same := true) rfl (hb hby d4_2) rfl (by simp [hc1]) (by decide) (by decide) k) ?_
  refine own_S (mkF m 6 #[rv a, rv a, .unset] [(.int 1)]) (fun _ k => XS.iconst X0.here hx rfl (hb hby d4_5) k) ?_
  exact own_retN X0 hx hlk (t := .boolean) hret (by simp) (hb hby d4_6) (by rw [e0]; exact ⟨rfl, N0, rfl⟩) (by decide) (by decide)
theorem d4_7 : decode prog_28_method_6_code 7 = .ok (.aload_n 1, 1) := by decide +kernel
theorem d4_8 : decode prog_28_method_6_code 8 = .ok (.instanceof 15, 3) := by decide +kernel
theorem d4_11 : decode prog_28_method_6_code 11 = .ok (.ifCond .eq 11, 3) := by decide +kernel
theorem d4_22 : decode prog_28_method_6_code 22 = .ok (.iconst 0, 1) := by decide +kernel
theorem d4_23 : decode prog_28_method_6_code 23 = .ok (.ireturn, 1) := by decide +kernel
theorem own_ef_e2 (m : MethodId) (y0 : Addr) : entryFrame m #[(.ref y0), .null] 3 = mkF m 0 #[rv y0, .val .null, .unset] [] := by first | (simp [entryFrame, mkF, argsToLocals, Value.category]; done) | rfl
def own_Qe2 (Z : State) (a : Addr) (h0 : Heap) (n0 : Nat) (v : Option Value) (h : Heap) (L : List Loc) : Prop := v = some (.int (0 : Int32)) ∧ Fr n0 L ∧ h = h0
set_option maxRecDepth 65536 in
set_option maxHeartbeats 40000000 in
theorem own_rme2 (l : Launch) (Z : State) (a0 : Array Value) (hw : ∀ d ∈ tables_1, d.before a0 Z = true) (ws : List Jvm.Cond) (a : Addr) (h0 : Heap) (n0 : Nat) (Z0 : n0 ≤ h0.size)  :
    MetFree l own_y4 (head1 (Jvm.Cond.code own_y4 prog_28_method_6_code 3 (some .boolean) :: ws) ({ frames := 0, cells := 0, slots := 0, locals := 0 } : Room)) (fun az Uz => az = #[(.ref a), .null] ∧ Z.Warmed39 Uz.vm ∧ Uz.heap = h0) (fun _ _ _ _ _ => True) (fun _ U o U' => ∃ v L, o = .returned v ∧ own_Qe2 Z a h0 n0 v U'.heap L ∧ FrameEnd U o U' L ({ frames := 0, cells := 0, slots := 0, locals := 0 } : Room).cells ({ frames := 0, cells := 0, slots := 0, locals := 0 } : Room).slots) := by
  refine MetFree.of_bodySF (plainFor_of_name own_pn_com_example_stickler_stickler_metadata_TopicId) hisR ?_
  intro p e s m args below meth c s₁ Bd hml0 hP hK
  obtain ⟨rfl, hZ, hh⟩ := hP
  have hx := Bd.exec
  have hby := Bd.bytes
  have hml : c.maxLocals = 3 := hml0
  have hown : s.vm.findClass "com/example/stickler/stickler/metadata/TopicId" = some m.cls := findClass_of_methodNamed Bd.named
  have hnm := (name_of_methodNamed Bd.named Bd.method).1
  have hlk : meth.locks = false := BodyLoose.notSynchronized Bd
  have hret := Bd.returns
  have X0 : Stand p l e ({ frames := 0, cells := 0, slots := 0, locals := 0 } : Room) s m #[(.ref a), .null] below meth c s₁ [] 0 0 := Stand.of_body Bd
  have e0 : s₁.heap = h0 := by rw [← hh, Bd.state]; rfl
  have N0 := Fr.nil n0
  show own_E p e below (own_K s (own_Qe2 Z a h0 n0) ({ frames := 0, cells := 0, slots := 0, locals := 0 } : Room).cells ({ frames := 0, cells := 0, slots := 0, locals := 0 } : Room).slots) s₁ (entryFrame m #[(.ref a), .null] 3)
  refine own_S (mkF m 0 #[rv a, .val .null, .unset] []) (fun _ k => castTop (own_ef_e2 m (a)) k) ?_
  refine own_S (mkF m 1 #[rv a, .val .null, .unset] [(.ref a)]) (fun _ k => XS.aloadN X0.here hx rfl (hb hby d4_0) rfl rfl k) ?_
  refine own_S (mkF m 2 #[rv a, .val .null, .unset] [.null, (.ref a)]) (fun _ k => XS.aloadN X0.here hx rfl (hb hby d4_1) rfl rfl k) ?_
  have hc1 : ¬ (((.ref a) : Value) = .null) := (fun q => nomatch q)
  refine own_S (mkF m 7 #[rv a, .val .null, .unset] []) (fun _ k => acmp X0 hx rfl rfl rfl (pc0 := 2) (pc' := 7) (same := false) rfl (hb hby d4_2) rfl (by simp [hc1]) (by decide) (by decide) k) ?_
  refine own_S (mkF m 8 #[rv a, .val .null, .unset] [.null]) (fun _ k => XS.aloadN X0.here hx rfl (hb hby d4_7) rfl rfl k) ?_
  refine own_S (mkF m 11 #[rv a, .val .null, .unset] [(.int 0)]) (fun _ k => X0.instanceofNull hx (g := (mkF m 8 #[rv a, .val .null, .unset] [.null])) rfl rfl (hb hby d4_8) _ k) ?_
  have hc2 : (0 : Int32) = (0 : Int32) := by decide
  refine own_S (mkF m 22 #[rv a, .val .null, .unset] []) (fun _ k => XS.ifYes X0.here hx rfl (pc0 := 11) (pc' := 22) rfl (hb hby d4_11) rfl ((if0 _ _).trans (teq hc2).1) (by decide) (by decide) k) ?_
  refine own_S (mkF m 23 #[rv a, .val .null, .unset] [(.int 0)]) (fun _ k => XS.iconst X0.here hx rfl (hb hby d4_22) k) ?_
  exact own_retN X0 hx hlk (t := .boolean) hret (by simp) (hb hby d4_23) (by rw [e0]; exact ⟨rfl, N0, rfl⟩) (by decide) (by decide)
theorem own_ef_e3 (m : MethodId) (y0 : Addr) (y1 : Addr) : entryFrame m #[(.ref y0), (.ref y1)] 3 = mkF m 0 #[rv y0, rv y1, .unset] [] := by first | (simp [entryFrame, mkF, argsToLocals, Value.category]; done) | rfl
def own_Qe3 (Z : State) (a : Addr) (b : Addr) (h0 : Heap) (n0 : Nat) (v : Option Value) (h : Heap) (L : List Loc) : Prop := v = some (.int (0 : Int32)) ∧ Fr n0 L ∧ h = h0
set_option maxRecDepth 65536 in
set_option maxHeartbeats 40000000 in
theorem own_rme3 (l : Launch) (Z : State) (a0 : Array Value) (hw : ∀ d ∈ tables_1, d.before a0 Z = true) (ws : List Jvm.Cond) (a : Addr) (b : Addr) (h0 : Heap) (n0 : Nat) (Z0 : n0 ≤ h0.size) (P0 : Exa Z h0 a "com/example/stickler/stickler/metadata/TopicId") (P1 : Exa Z h0 b "java/lang/Long") :
    MetFree l own_y4 (head1 (Jvm.Cond.code own_y4 prog_28_method_6_code 3 (some .boolean) :: ws) ({ frames := 0, cells := 0, slots := 0, locals := 0 } : Room)) (fun az Uz => az = #[(.ref a), (.ref b)] ∧ Z.Warmed39 Uz.vm ∧ Uz.heap = h0) (fun _ _ _ _ _ => True) (fun _ U o U' => ∃ v L, o = .returned v ∧ own_Qe3 Z a b h0 n0 v U'.heap L ∧ FrameEnd U o U' L ({ frames := 0, cells := 0, slots := 0, locals := 0 } : Room).cells ({ frames := 0, cells := 0, slots := 0, locals := 0 } : Room).slots) := by
  refine MetFree.of_bodySF (plainFor_of_name own_pn_com_example_stickler_stickler_metadata_TopicId) hisR ?_
  intro p e s m args below meth c s₁ Bd hml0 hP hK
  obtain ⟨rfl, hZ, hh⟩ := hP
  have hx := Bd.exec
  have hby := Bd.bytes
  have hml : c.maxLocals = 3 := hml0
  have hown : s.vm.findClass "com/example/stickler/stickler/metadata/TopicId" = some m.cls := findClass_of_methodNamed Bd.named
  have hnm := (name_of_methodNamed Bd.named Bd.method).1
  have hlk : meth.locks = false := BodyLoose.notSynchronized Bd
  have hret := Bd.returns
  have X0 : Stand p l e ({ frames := 0, cells := 0, slots := 0, locals := 0 } : Room) s m #[(.ref a), (.ref b)] below meth c s₁ [] 0 0 := Stand.of_body Bd
  have e0 : s₁.heap = h0 := by rw [← hh, Bd.state]; rfl
  have N0 := Fr.nil n0
  show own_E p e below (own_K s (own_Qe3 Z a b h0 n0) ({ frames := 0, cells := 0, slots := 0, locals := 0 } : Room).cells ({ frames := 0, cells := 0, slots := 0, locals := 0 } : Room).slots) s₁ (entryFrame m #[(.ref a), (.ref b)] 3)
  refine own_S (mkF m 0 #[rv a, rv b, .unset] []) (fun _ k => castTop (own_ef_e3 m (a) (b)) k) ?_
  refine own_S (mkF m 1 #[rv a, rv b, .unset] [(.ref a)]) (fun _ k => XS.aloadN X0.here hx rfl (hb hby d4_0) rfl rfl k) ?_
  refine own_S (mkF m 2 #[rv a, rv b, .unset] [(.ref b), (.ref a)]) (fun _ k => XS.aloadN X0.here hx rfl (hb hby d4_1) rfl rfl k) ?_
  have hc1 : ¬ (a = b) := (ne_exa P0 P1 (by decide))
  refine own_S (mkF m 7 #[rv a, rv b, .unset] []) (fun _ k => acmp X0 hx rfl rfl rfl (pc0 := 2) (pc' := 7) (same := false) rfl (hb hby d4_2) rfl (by simp [hc1]) (by decide) (by decide) k) ?_
  refine own_S (mkF m 8 #[rv a, rv b, .unset] [(.ref b)]) (fun _ k => XS.aloadN X0.here hx rfl (hb hby d4_7) rfl rfl k) ?_
  obtain ⟨T2, X2, e2, st2⟩ := instNo X0 hx hZ hown (own_g hw (i := 26) rfl) e0 P1 (own_NSn (own_g hw (i := 27) rfl) (own_g hw (i := 1) rfl) (NS.step (own_g hw (i := 27) rfl) (NS.step (own_g hw (i := 28) rfl) (own_NSr (own_g hw (i := 29) rfl) (own_g hw (i := 1) rfl) (by decide)) (by decide)) (by decide))) (g := (mkF m 8 #[rv a, rv b, .unset] [(.ref b)])) rfl rfl (hb hby d4_8)
  refine own_S (mkF m 11 #[rv a, rv b, .unset] [(.int 0)]) st2 ?_
  have hc3 : (0 : Int32) = (0 : Int32) := by decide
  refine own_S (mkF m 22 #[rv a, rv b, .unset] []) (fun _ k => XS.ifYes X2.here hx rfl (pc0 := 11) (pc' := 22) rfl (hb hby d4_11) rfl ((if0 _ _).trans (teq hc3).1) (by decide) (by decide) k) ?_
  refine own_S (mkF m 23 #[rv a, rv b, .unset] [(.int 0)]) (fun _ k => XS.iconst X2.here hx rfl (hb hby d4_22) k) ?_
  exact own_retN X2 hx hlk (t := .boolean) hret (by simp) (hb hby d4_23) (by rw [e2]; exact ⟨rfl, N0, rfl⟩) (by decide) (by decide)
theorem d4_14 : decode prog_28_method_6_code 14 = .ok (.aload_n 1, 1) := by decide +kernel
theorem d4_15 : decode prog_28_method_6_code 15 = .ok (.checkcast 15, 3) := by decide +kernel
theorem d4_18 : decode prog_28_method_6_code 18 = .ok (.astore_n 2, 1) := by decide +kernel
theorem d4_19 : decode prog_28_method_6_code 19 = .ok (.goto 5, 3) := by decide +kernel
theorem d4_24 : decode prog_28_method_6_code 24 = .ok (.aload_n 0, 1) := by decide +kernel
theorem d4_25 : decode prog_28_method_6_code 25 = .ok (.getfield 14, 3) := by decide +kernel
theorem d4_28 : decode prog_28_method_6_code 28 = .ok (.aload_n 2, 1) := by decide +kernel
theorem d4_29 : decode prog_28_method_6_code 29 = .ok (.getfield 14, 3) := by decide +kernel
theorem d4_32 : decode prog_28_method_6_code 32 = .ok (.lcmp, 1) := by decide +kernel
theorem d4_33 : decode prog_28_method_6_code 33 = .ok (.ifCond .ne 19, 3) := by decide +kernel
theorem d4_36 : decode prog_28_method_6_code 36 = .ok (.aload_n 0, 1) := by decide +kernel
theorem d4_37 : decode prog_28_method_6_code 37 = .ok (.getfield 20, 3) := by decide +kernel
theorem d4_40 : decode prog_28_method_6_code 40 = .ok (.aload_n 2, 1) := by decide +kernel
theorem d4_41 : decode prog_28_method_6_code 41 = .ok (.getfield 20, 3) := by decide +kernel
theorem d4_44 : decode prog_28_method_6_code 44 = .ok (.lcmp, 1) := by decide +kernel
theorem d4_45 : decode prog_28_method_6_code 45 = .ok (.ifCond .ne 7, 3) := by decide +kernel
theorem d4_48 : decode prog_28_method_6_code 48 = .ok (.iconst 1, 1) := by decide +kernel
theorem d4_49 : decode prog_28_method_6_code 49 = .ok (.goto 4, 3) := by decide +kernel
theorem d4_52 : decode prog_28_method_6_code 52 = .ok (.iconst 0, 1) := by decide +kernel
theorem d4_53 : decode prog_28_method_6_code 53 = .ok (.ireturn, 1) := by decide +kernel
theorem own_ef_e4 (m : MethodId) (y0 : Addr) (y1 : Addr) : entryFrame m #[(.ref y0), (.ref y1)] 3 = mkF m 0 #[rv y0, rv y1, .unset] [] := by first | (simp [entryFrame, mkF, argsToLocals, Value.category]; done) | rfl
def own_Qe4 (Z : State) (a : Addr) (b : Addr) (x1 : Int64) (y1 : Int64) (x2 : Int64) (y2 : Int64) (h0 : Heap) (n0 : Nat) (v : Option Value) (h : Heap) (L : List Loc) : Prop := v = some (.int (if x1 = x2 ∧ y1 = y2 then (1 : Int32) else (0 : Int32))) ∧ Fr n0 L ∧ h = h0
set_option maxRecDepth 65536 in
set_option maxHeartbeats 40000000 in
theorem own_rme4 (l : Launch) (Z : State) (a0 : Array Value) (hw : ∀ d ∈ tables_1, d.before a0 Z = true) (ws : List Jvm.Cond) (a : Addr) (b : Addr) (x1 : Int64) (y1 : Int64) (x2 : Int64) (y2 : Int64) (h0 : Heap) (n0 : Nat) (Z0 : n0 ≤ h0.size) (P0 : Exa Z h0 a "com/example/stickler/stickler/metadata/TopicId") (P1 : Fld Z h0 a "com/example/stickler/stickler/metadata/TopicId" "mostSignificantBits" "J" (.long x1)) (P2 : Fld Z h0 a "com/example/stickler/stickler/metadata/TopicId" "leastSignificantBits" "J" (.long y1)) (P3 : Exa Z h0 b "com/example/stickler/stickler/metadata/TopicId") (P4 : Fld Z h0 b "com/example/stickler/stickler/metadata/TopicId" "mostSignificantBits" "J" (.long x2)) (P5 : Fld Z h0 b "com/example/stickler/stickler/metadata/TopicId" "leastSignificantBits" "J" (.long y2)) (NE_a_b : a ≠ b) :
    MetFree l own_y4 (head1 (Jvm.Cond.code own_y4 prog_28_method_6_code 3 (some .boolean) :: ws) ({ frames := 0, cells := 0, slots := 0, locals := 0 } : Room)) (fun az Uz => az = #[(.ref a), (.ref b)] ∧ Z.Warmed39 Uz.vm ∧ Uz.heap = h0) (fun _ _ _ _ _ => True) (fun _ U o U' => ∃ v L, o = .returned v ∧ own_Qe4 Z a b x1 y1 x2 y2 h0 n0 v U'.heap L ∧ FrameEnd U o U' L ({ frames := 0, cells := 0, slots := 0, locals := 0 } : Room).cells ({ frames := 0, cells := 0, slots := 0, locals := 0 } : Room).slots) := by
  refine MetFree.of_bodySF (plainFor_of_name own_pn_com_example_stickler_stickler_metadata_TopicId) hisR ?_
  intro p e s m args below meth c s₁ Bd hml0 hP hK
  obtain ⟨rfl, hZ, hh⟩ := hP
  have hx := Bd.exec
  have hby := Bd.bytes
  have hml : c.maxLocals = 3 := hml0
  have hown : s.vm.findClass "com/example/stickler/stickler/metadata/TopicId" = some m.cls := findClass_of_methodNamed Bd.named
  have hnm := (name_of_methodNamed Bd.named Bd.method).1
  have hlk : meth.locks = false := BodyLoose.notSynchronized Bd
  have hret := Bd.returns
  have X0 : Stand p l e ({ frames := 0, cells := 0, slots := 0, locals := 0 } : Room) s m #[(.ref a), (.ref b)] below meth c s₁ [] 0 0 := Stand.of_body Bd
  have e0 : s₁.heap = h0 := by rw [← hh, Bd.state]; rfl
  have N0 := Fr.nil n0
  show own_E p e below (own_K s (own_Qe4 Z a b x1 y1 x2 y2 h0 n0) ({ frames := 0, cells := 0, slots := 0, locals := 0 } : Room).cells ({ frames := 0, cells := 0, slots := 0, locals := 0 } : Room).slots) s₁ (entryFrame m #[(.ref a), (.ref b)] 3)
  refine own_S (mkF m 0 #[rv a, rv b, .unset] []) (fun _ k => castTop (own_ef_e4 m (a) (b)) k) ?_
  refine own_S (mkF m 1 #[rv a, rv b, .unset] [(.ref a)]) (fun _ k => XS.aloadN X0.here hx rfl (hb hby d4_0) rfl rfl k) ?_
  refine own_S (mkF m 2 #[rv a, rv b, .unset] [(.ref b), (.ref a)]) (fun _ k => XS.aloadN X0.here hx rfl (hb hby d4_1) rfl rfl k) ?_
  have hc1 : ¬ (a = b) := NE_a_b
  refine own_S (mkF m 7 #[rv a, rv b, .unset] []) (fun _ k => acmp X0 hx rfl rfl rfl (pc0 := 2) (pc' := 7) (same := false) rfl (hb hby d4_2) rfl (by simp [hc1]) (by decide) (by decide) k) ?_
  refine own_S (mkF m 8 #[rv a, rv b, .unset] [(.ref b)]) (fun _ k => XS.aloadN X0.here hx rfl (hb hby d4_7) rfl rfl k) ?_
  obtain ⟨T2, X2, e2, st2⟩ := instY X0 hx hZ hown (own_g hw (i := 26) rfl) e0 (Ins.self P3) (g := (mkF m 8 #[rv a, rv b, .unset] [(.ref b)])) rfl rfl (hb hby d4_8)
  refine own_S (mkF m 11 #[rv a, rv b, .unset] [(.int 1)]) st2 ?_
  have hc3 : ¬ ((1 : Int32) = (0 : Int32)) := by decide
  refine own_S (mkF m 14 #[rv a, rv b, .unset] []) (fun _ k => XS.ifNo X2.here hx rfl (hb hby d4_11) rfl ((if0 _ _).trans (feq hc3).1) k) ?_
  refine own_S (mkF m 15 #[rv a, rv b, .unset] [(.ref b)]) (fun _ k => XS.aloadN X2.here hx rfl (hb hby d4_14) rfl rfl k) ?_
  obtain ⟨T4, X4, e4, st4⟩ := castY X2 hx hZ hown (own_g hw (i := 26) rfl) e2 (Ins.self P3) (g := (mkF m 15 #[rv a, rv b, .unset] [(.ref b)])) rfl rfl (hb hby d4_15)
  refine own_S (mkF m 18 #[rv a, rv b, .unset] [(.ref b)]) st4 ?_
  refine own_S (mkF m 19 #[rv a, rv b, rv b] []) (fun _ k => XS.astoreN X4.here hx rfl (hb hby d4_18) rfl rfl (l' := #[rv a, rv b, rv b]) rfl k) ?_
  refine own_S (mkF m 24 #[rv a, rv b, rv b] []) (fun _ k => XS.goto X4.here hx rfl (pc0 := 19) (pc' := 24) rfl (hb hby d4_19) (by decide) (by decide) k) ?_
  refine own_S (mkF m 25 #[rv a, rv b, rv b] [(.ref a)]) (fun _ k => XS.aloadN X4.here hx rfl (hb hby d4_24) rfl rfl k) ?_
  obtain ⟨T5, X5, e5, st5⟩ := getF X4 hx hZ hown (host := "") (Or.inl (own_g hw (i := 9) rfl)) Via.refl e4 P1 (g := (mkF m 25 #[rv a, rv b, rv b] [(.ref a)])) rfl rfl (hb hby d4_25)
  refine own_S (mkF m 28 #[rv a, rv b, rv b] [(.long x1)]) st5 ?_
  refine own_S (mkF m 29 #[rv a, rv b, rv b] [(.ref b), (.long x1)]) (fun _ k => XS.aloadN X5.here hx rfl (hb hby d4_28) rfl rfl k) ?_
  obtain ⟨T6, X6, e6, st6⟩ := getF X5 hx hZ hown (host := "") (Or.inl (own_g hw (i := 9) rfl)) Via.refl e5 P4 (g := (mkF m 29 #[rv a, rv b, rv b] [(.ref b), (.long x1)])) rfl rfl (hb hby d4_29)
  refine own_S (mkF m 32 #[rv a, rv b, rv b] [(.long x2), (.long x1)]) st6 ?_
  refine own_S (mkF m 33 #[rv a, rv b, rv b] [(.int (lcmpW x1 x2))]) (fun _ k => XS.lcmp X6.here hx rfl (hb hby d4_32) rfl k) ?_
  by_cases h1 : x1 = x2
  · -- x1 = x2
    refine own_S (mkF m 36 #[rv a, rv b, rv b] []) (fun _ k => XS.ifNo X6.here hx rfl (hb hby d4_33) rfl ((if0 _ _).trans (teq ((lw_eq x1 x2).mpr h1)).2) k) ?_
    refine own_S (mkF m 37 #[rv a, rv b, rv b] [(.ref a)]) (fun _ k => XS.aloadN X6.here hx rfl (hb hby d4_36) rfl rfl k) ?_
    obtain ⟨T7, X7, e7, st7⟩ := getF X6 hx hZ hown (host := "") (Or.inl (own_g hw (i := 11) rfl)) Via.refl e6 P2 (g := (mkF m 37 #[rv a, rv b, rv b] [(.ref a)])) rfl rfl (hb hby d4_37)
    refine own_S (mkF m 40 #[rv a, rv b, rv b] [(.long y1)]) st7 ?_
    refine own_S (mkF m 41 #[rv a, rv b, rv b] [(.ref b), (.long y1)]) (fun _ k => XS.aloadN X7.here hx rfl (hb hby d4_40) rfl rfl k) ?_
    obtain ⟨T8, X8, e8, st8⟩ := getF X7 hx hZ hown (host := "") (Or.inl (own_g hw (i := 11) rfl)) Via.refl e7 P5 (g := (mkF m 41 #[rv a, rv b, rv b] [(.ref b), (.long y1)])) rfl rfl (hb hby d4_41)
    refine own_S (mkF m 44 #[rv a, rv b, rv b] [(.long y2), (.long y1)]) st8 ?_
    refine own_S (mkF m 45 #[rv a, rv b, rv b] [(.int (lcmpW y1 y2))]) (fun _ k => XS.lcmp X8.here hx rfl (hb hby d4_44) rfl k) ?_
    by_cases h2 : y1 = y2
    · -- y1 = y2
      refine own_S (mkF m 48 #[rv a, rv b, rv b] []) (fun _ k => XS.ifNo X8.here hx rfl (hb hby d4_45) rfl ((if0 _ _).trans (teq ((lw_eq y1 y2).mpr h2)).2) k) ?_
      refine own_S (mkF m 49 #[rv a, rv b, rv b] [(.int 1)]) (fun _ k => XS.iconst X8.here hx rfl (hb hby d4_48) k) ?_
      refine own_S (mkF m 53 #[rv a, rv b, rv b] [(.int 1)]) (fun _ k => XS.goto X8.here hx rfl (pc0 := 49) (pc' := 53) rfl (hb hby d4_49) (by decide) (by decide) k) ?_
      exact own_retN X8 hx hlk (t := .boolean) hret (by simp) (hb hby d4_53) (by rw [e8]; exact ⟨(by rw [if_pos ⟨h1, h2⟩]; rfl), N0, rfl⟩) (by decide) (by decide)
    · -- not y1 = y2
      refine own_S (mkF m 52 #[rv a, rv b, rv b] []) (fun _ k => XS.ifYes X8.here hx rfl (pc0 := 45) (pc' := 52) rfl (hb hby d4_45) rfl ((if0 _ _).trans (feq (fun q => h2 ((lw_eq y1 y2).mp q))).2) (by decide) (by decide) k) ?_
      refine own_S (mkF m 53 #[rv a, rv b, rv b] [(.int 0)]) (fun _ k => XS.iconst X8.here hx rfl (hb hby d4_52) k) ?_
      exact own_retN X8 hx hlk (t := .boolean) hret (by simp) (hb hby d4_53) (by rw [e8]; exact ⟨(by rw [if_neg (fun q => h2 q.2)]; rfl), N0, rfl⟩) (by decide) (by decide)
  · -- not x1 = x2
    refine own_S (mkF m 52 #[rv a, rv b, rv b] []) (fun _ k => XS.ifYes X6.here hx rfl (pc0 := 33) (pc' := 52) rfl (hb hby d4_33) rfl ((if0 _ _).trans (feq (fun q => h1 ((lw_eq x1 x2).mp q))).2) (by decide) (by decide) k) ?_
    refine own_S (mkF m 53 #[rv a, rv b, rv b] [(.int 0)]) (fun _ k => XS.iconst X6.here hx rfl (hb hby d4_52) k) ?_
    exact own_retN X6 hx hlk (t := .boolean) hret (by simp) (hb hby d4_53) (by rw [e6]; exact ⟨(by rw [if_neg (fun q => h1 q.1)]; rfl), N0, rfl⟩) (by decide) (by decide)
theorem own_pd__JJ_V : parseMethodDescriptor "(JJ)V" = some ⟨[.long, .long], none⟩ := by decide +kernel
theorem own_pd__J_Ljava_lang_Long_ : parseMethodDescriptor "(J)Ljava/lang/Long;" = some ⟨[.long], (some (.object "java/lang/Long"))⟩ := by decide +kernel
theorem own_pd__Ljava_lang_Object__Z : parseMethodDescriptor "(Ljava/lang/Object;)Z" = some ⟨[(.object "java/lang/Object")], (some .boolean)⟩ := by decide +kernel
theorem own_pn_com_example_stickler_stickler_metadata_TopicIdEqualsPinLaw : plainName "com/example/stickler/stickler/metadata/TopicIdEqualsPinLaw" = true := by first | (simp [plainName, overriddenIn]; done) | decide +kernel
theorem own_ef_law (m : MethodId) (y0 : Int64) (y1 : Int64) (y2 : Int64) (y3 : Int64) (y4 : Int32) : entryFrame m #[(.long y0), (.long y1), (.long y2), (.long y3), (.int y4)] maxLocals = mkF m 0 #[.val (.long y0), .second, .val (.long y1), .second, .val (.long y2), .second, .val (.long y3), .second, iv y4, .unset, .unset, .unset, .unset, .unset, .unset, .unset, .unset, .unset, .unset, .unset, .unset, .unset, .unset, .unset, .unset] [] := by first | (simp [entryFrame, mkF, argsToLocals, Value.category, maxLocals]; done) | rfl
def own_Qlaw (Z : State) (m1 : Int64) (l1 : Int64) (pp : Int64) (qq : Int64) (sl : Int32) (ca : Addr) (h0 : Heap) (n0 : Nat) (v : Option Value) (h : Heap) (L : List Loc) : Prop := v = some (.int 1) ∧ Fr n0 L ∧ True
set_option maxRecDepth 65536 in
set_option maxHeartbeats 40000000 in
theorem own_rmlaw (l : Launch) (Z : State) (a0 : Array Value) (hw : ∀ d ∈ tables_1, d.before a0 Z = true) (ws : List Jvm.Cond) (m1 : Int64) (l1 : Int64) (pp : Int64) (qq : Int64) (sl : Int32) (ca : Addr) (h0 : Heap) (n0 : Nat) (Z0 : n0 ≤ h0.size) (P0 : Old Z n0 h0) (hS : Sta Z Z.heap "java/lang/Long$LongCache" "cache" "[Ljava/lang/Long;" (.ref ca)) (hC : own_Cache Z ca) :
    MetFree l x (head1 (Jvm.Cond.code x code maxLocals ret :: ws) room_1) (fun az Uz => az = #[(.long m1), (.long l1), (.long pp), (.long qq), (.int sl)] ∧ Z.Warmed39 Uz.vm ∧ Uz.heap = h0) (fun _ _ _ _ _ => True) (fun _ U o U' => ∃ v L, o = .returned v ∧ own_Qlaw Z m1 l1 pp qq sl ca h0 n0 v U'.heap L ∧ FrameEnd U o U' L room_1.cells room_1.slots) := by
  refine MetFree.of_bodySF (plainFor_of_name own_pn_com_example_stickler_stickler_metadata_TopicIdEqualsPinLaw) hisR ?_
  intro p e s m args below meth c s₁ Bd hml0 hP hK
  obtain ⟨rfl, hZ, hh⟩ := hP
  have hx := Bd.exec
  have hby := Bd.bytes
  have hml : c.maxLocals = 25 := hml0
  have hown : s.vm.findClass "com/example/stickler/stickler/metadata/TopicIdEqualsPinLaw" = some m.cls := findClass_of_methodNamed Bd.named
  have hnm := (name_of_methodNamed Bd.named Bd.method).1
  have hlk : meth.locks = false := BodyLoose.notSynchronized Bd
  have hret := Bd.returns
  have X0 : Stand p l e room_1 s m #[(.long m1), (.long l1), (.long pp), (.long qq), (.int sl)] below meth c s₁ [] 0 0 := Stand.of_body Bd
  have e0 : s₁.heap = h0 := by rw [← hh, Bd.state]; rfl
  have N0 := Fr.nil n0
  show own_E p e below (own_K s (own_Qlaw Z m1 l1 pp qq sl ca h0 n0) room_1.cells room_1.slots) s₁ (entryFrame m #[(.long m1), (.long l1), (.long pp), (.long qq), (.int sl)] maxLocals)
  refine own_S (mkF m 0 #[.val (.long m1), .second, .val (.long l1), .second, .val (.long pp), .second, .val (.long qq), .second, iv sl, .unset, .unset, .unset, .unset, .unset, .unset, .unset, .unset, .unset, .unset, .unset, .unset, .unset, .unset, .unset, .unset] []) (fun _ k => castTop (own_ef_law m (m1) (l1) (pp) (qq) (sl)) k) ?_
  refine own_S (mkF m 2 #[.val (.long m1), .second, .val (.long l1), .second, .val (.long pp), .second, .val (.long qq), .second, iv sl, .unset, .unset, .unset, .unset, .unset, .unset, .unset, .unset, .unset, .unset, .unset, .unset, .unset, .unset, .unset, .unset] [(.int sl)]) (fun _ k => XS.iload X0.here hx rfl (hb hby at_0) rfl k) ?_
  refine own_S (mkF m 3 #[.val (.long m1), .second, .val (.long l1), .second, .val (.long pp), .second, .val (.long qq), .second, iv sl, .unset, .unset, .unset, .unset, .unset, .unset, .unset, .unset, .unset, .unset, .unset, .unset, .unset, .unset, .unset, .unset] [(.int 3), (.int sl)]) (fun _ k => XS.iconst X0.here hx rfl (hb hby at_2) k) ?_
  refine own_S (mkF m 4 #[.val (.long m1), .second, .val (.long l1), .second, .val (.long pp), .second, .val (.long qq), .second, iv sl, .unset, .unset, .unset, .unset, .unset, .unset, .unset, .unset, .unset, .unset, .unset, .unset, .unset, .unset, .unset, .unset] [(.int (sl &&& (3 : Int32)))]) (fun _ k => XS.iand X0.here hx rfl (hb hby at_3) rfl k) ?_
  refine own_S (mkF m 6 #[.val (.long m1), .second, .val (.long l1), .second, .val (.long pp), .second, .val (.long qq), .second, iv sl, iv (sl &&& (3 : Int32)), .unset, .unset, .unset, .unset, .unset, .unset, .unset, .unset, .unset, .unset, .unset, .unset, .unset, .unset, .unset] []) (fun _ k => XS.istore X0.here hx rfl (hb hby at_4) rfl (l' := #[.val (.long m1), .second, .val (.long l1), .second, .val (.long pp), .second, .val (.long qq), .second, iv sl, iv (sl &&& (3 : Int32)), .unset, .unset, .unset, .unset, .unset, .unset, .unset, .unset, .unset, .unset, .unset, .unset, .unset, .unset, .unset]) rfl k) ?_
  obtain ⟨mo, h_mo⟩ : ∃ z : Int32, z = (sl &&& (3 : Int32)) := ⟨_, rfl⟩
  refine own_S (T' := s₁) (mkF m 6 #[.val (.long m1), .second, .val (.long l1), .second, .val (.long pp), .second, .val (.long qq), .second, iv sl, iv mo, .unset, .unset, .unset, .unset, .unset, .unset, .unset, .unset, .unset, .unset, .unset, .unset, .unset, .unset, .unset] []) (fun _ k => by subst h_mo; exact k) ?_
  refine own_S (mkF m 7 #[.val (.long m1), .second, .val (.long l1), .second, .val (.long pp), .second, .val (.long qq), .second, iv sl, iv mo, .unset, .unset, .unset, .unset, .unset, .unset, .unset, .unset, .unset, .unset, .unset, .unset, .unset, .unset, .unset] [(.long m1)]) (fun _ k => XS.lloadN X0.here hx rfl (hb hby at_6) rfl k) ?_
  refine own_S (mkF m 9 #[.val (.long m1), .second, .val (.long l1), .second, .val (.long pp), .second, .val (.long qq), .second, iv sl, iv mo, .val (.long m1), .second, .unset, .unset, .unset, .unset, .unset, .unset, .unset, .unset, .unset, .unset, .unset, .unset, .unset] []) (fun _ k => XS.lstore X0.here hx rfl (hb hby at_7) rfl (l' := #[.val (.long m1), .second, .val (.long l1), .second, .val (.long pp), .second, .val (.long qq), .second, iv sl, iv mo, .val (.long m1), .second, .unset, .unset, .unset, .unset, .unset, .unset, .unset, .unset, .unset, .unset, .unset, .unset, .unset]) rfl k) ?_
  refine own_S (mkF m 10 #[.val (.long m1), .second, .val (.long l1), .second, .val (.long pp), .second, .val (.long qq), .second, iv sl, iv mo, .val (.long m1), .second, .unset, .unset, .unset, .unset, .unset, .unset, .unset, .unset, .unset, .unset, .unset, .unset, .unset] [(.long l1)]) (fun _ k => XS.lloadN X0.here hx rfl (hb hby at_9) rfl k) ?_
  refine own_S (mkF m 12 #[.val (.long m1), .second, .val (.long l1), .second, .val (.long pp), .second, .val (.long qq), .second, iv sl, iv mo, .val (.long m1), .second, .val (.long l1), .second, .unset, .unset, .unset, .unset, .unset, .unset, .unset, .unset, .unset, .unset, .unset] []) (fun _ k => XS.lstore X0.here hx rfl (hb hby at_10) rfl (l' := #[.val (.long m1), .second, .val (.long l1), .second, .val (.long pp), .second, .val (.long qq), .second, iv sl, iv mo, .val (.long m1), .second, .val (.long l1), .second, .unset, .unset, .unset, .unset, .unset, .unset, .unset, .unset, .unset, .unset, .unset]) rfl k) ?_
  refine own_S (mkF m 14 #[.val (.long m1), .second, .val (.long l1), .second, .val (.long pp), .second, .val (.long qq), .second, iv sl, iv mo, .val (.long m1), .second, .val (.long l1), .second, .unset, .unset, .unset, .unset, .unset, .unset, .unset, .unset, .unset, .unset, .unset] [(.int mo)]) (fun _ k => XS.iload X0.here hx rfl (hb hby at_12) rfl k) ?_
  refine own_S (mkF m 15 #[.val (.long m1), .second, .val (.long l1), .second, .val (.long pp), .second, .val (.long qq), .second, iv sl, iv mo, .val (.long m1), .second, .val (.long l1), .second, .unset, .unset, .unset, .unset, .unset, .unset, .unset, .unset, .unset, .unset, .unset] [(.int 1), (.int mo)]) (fun _ k => XS.iconst X0.here hx rfl (hb hby at_14) k) ?_
  obtain ⟨m2, h_m2⟩ : ∃ z : Int64, z = (if mo = (1 : Int32) then pp else (if mo = (2 : Int32) then m1 else (if mo = (3 : Int32) then pp else m1))) := ⟨_, rfl⟩
  obtain ⟨l2, h_l2⟩ : ∃ z : Int64, z = (if mo = (1 : Int32) then l1 else (if mo = (2 : Int32) then qq else (if mo = (3 : Int32) then qq else l1))) := ⟨_, rfl⟩
  refine own_S (T' := s₁) (mkF m 52 #[.val (.long m1), .second, .val (.long l1), .second, .val (.long pp), .second, .val (.long qq), .second, iv sl, iv mo, .val (.long m2), .second, .val (.long l2), .second, .unset, .unset, .unset, .unset, .unset, .unset, .unset, .unset, .unset, .unset, .unset] []) (fun _ k => ?_) ?_
  ·
    by_cases hj1 : mo = (1 : Int32)
    ·
      refine own_s (mkF m 18 #[.val (.long m1), .second, .val (.long l1), .second, .val (.long pp), .second, .val (.long qq), .second, iv sl, iv mo, .val (.long m1), .second, .val (.long l1), .second, .unset, .unset, .unset, .unset, .unset, .unset, .unset, .unset, .unset, .unset, .unset] []) (fun _ k => XS.icmpNo X0.here hx rfl (hb hby at_15) rfl (teq hj1).2 k) ?_
      refine own_s (mkF m 20 #[.val (.long m1), .second, .val (.long l1), .second, .val (.long pp), .second, .val (.long qq), .second, iv sl, iv mo, .val (.long m1), .second, .val (.long l1), .second, .unset, .unset, .unset, .unset, .unset, .unset, .unset, .unset, .unset, .unset, .unset] [(.long pp)]) (fun _ k => XS.lload X0.here hx rfl (hb hby at_18) rfl k) ?_
      refine own_s (mkF m 22 #[.val (.long m1), .second, .val (.long l1), .second, .val (.long pp), .second, .val (.long qq), .second, iv sl, iv mo, .val (.long pp), .second, .val (.long l1), .second, .unset, .unset, .unset, .unset, .unset, .unset, .unset, .unset, .unset, .unset, .unset] []) (fun _ k => XS.lstore X0.here hx rfl (hb hby at_20) rfl (l' := #[.val (.long m1), .second, .val (.long l1), .second, .val (.long pp), .second, .val (.long qq), .second, iv sl, iv mo, .val (.long pp), .second, .val (.long l1), .second, .unset, .unset, .unset, .unset, .unset, .unset, .unset, .unset, .unset, .unset, .unset]) rfl k) ?_
      refine own_s (mkF m 52 #[.val (.long m1), .second, .val (.long l1), .second, .val (.long pp), .second, .val (.long qq), .second, iv sl, iv mo, .val (.long pp), .second, .val (.long l1), .second, .unset, .unset, .unset, .unset, .unset, .unset, .unset, .unset, .unset, .unset, .unset] []) (fun _ k => XS.goto X0.here hx rfl (pc0 := 22) (pc' := 52) rfl (hb hby at_22) (by decide) (by decide) k) ?_
      rw [show m2 = pp from by rw [h_m2, if_pos hj1]] at k
      rw [show l2 = l1 from by rw [h_l2, if_pos hj1]] at k
      exact k
    ·
      refine own_s (mkF m 25 #[.val (.long m1), .second, .val (.long l1), .second, .val (.long pp), .second, .val (.long qq), .second, iv sl, iv mo, .val (.long m1), .second, .val (.long l1), .second, .unset, .unset, .unset, .unset, .unset, .unset, .unset, .unset, .unset, .unset, .unset] []) (fun _ k => XS.icmpYes X0.here hx rfl (pc0 := 15) (pc' := 25) rfl (hb hby at_15) rfl (feq hj1).2 (by decide) (by decide) k) ?_
      refine own_s (mkF m 27 #[.val (.long m1), .second, .val (.long l1), .second, .val (.long pp), .second, .val (.long qq), .second, iv sl, iv mo, .val (.long m1), .second, .val (.long l1), .second, .unset, .unset, .unset, .unset, .unset, .unset, .unset, .unset, .unset, .unset, .unset] [(.int mo)]) (fun _ k => XS.iload X0.here hx rfl (hb hby at_25) rfl k) ?_
      refine own_s (mkF m 28 #[.val (.long m1), .second, .val (.long l1), .second, .val (.long pp), .second, .val (.long qq), .second, iv sl, iv mo, .val (.long m1), .second, .val (.long l1), .second, .unset, .unset, .unset, .unset, .unset, .unset, .unset, .unset, .unset, .unset, .unset] [(.int 2), (.int mo)]) (fun _ k => XS.iconst X0.here hx rfl (hb hby at_27) k) ?_
      by_cases hj2 : mo = (2 : Int32)
      ·
        refine own_s (mkF m 31 #[.val (.long m1), .second, .val (.long l1), .second, .val (.long pp), .second, .val (.long qq), .second, iv sl, iv mo, .val (.long m1), .second, .val (.long l1), .second, .unset, .unset, .unset, .unset, .unset, .unset, .unset, .unset, .unset, .unset, .unset] []) (fun _ k => XS.icmpNo X0.here hx rfl (hb hby at_28) rfl (teq hj2).2 k) ?_
        refine own_s (mkF m 33 #[.val (.long m1), .second, .val (.long l1), .second, .val (.long pp), .second, .val (.long qq), .second, iv sl, iv mo, .val (.long m1), .second, .val (.long l1), .second, .unset, .unset, .unset, .unset, .unset, .unset, .unset, .unset, .unset, .unset, .unset] [(.long qq)]) (fun _ k => XS.lload X0.here hx rfl (hb hby at_31) rfl k) ?_
        refine own_s (mkF m 35 #[.val (.long m1), .second, .val (.long l1), .second, .val (.long pp), .second, .val (.long qq), .second, iv sl, iv mo, .val (.long m1), .second, .val (.long qq), .second, .unset, .unset, .unset, .unset, .unset, .unset, .unset, .unset, .unset, .unset, .unset] []) (fun _ k => XS.lstore X0.here hx rfl (hb hby at_33) rfl (l' := #[.val (.long m1), .second, .val (.long l1), .second, .val (.long pp), .second, .val (.long qq), .second, iv sl, iv mo, .val (.long m1), .second, .val (.long qq), .second, .unset, .unset, .unset, .unset, .unset, .unset, .unset, .unset, .unset, .unset, .unset]) rfl k) ?_
        refine own_s (mkF m 52 #[.val (.long m1), .second, .val (.long l1), .second, .val (.long pp), .second, .val (.long qq), .second, iv sl, iv mo, .val (.long m1), .second, .val (.long qq), .second, .unset, .unset, .unset, .unset, .unset, .unset, .unset, .unset, .unset, .unset, .unset] []) (fun _ k => XS.goto X0.here hx rfl (pc0 := 35) (pc' := 52) rfl (hb hby at_35) (by decide) (by decide) k) ?_
        rw [show m2 = m1 from by rw [h_m2, if_neg hj1, if_pos hj2]] at k
        rw [show l2 = qq from by rw [h_l2, if_neg hj1, if_pos hj2]] at k
        exact k
      ·
        refine own_s (mkF m 38 #[.val (.long m1), .second, .val (.long l1), .second, .val (.long pp), .second, .val (.long qq), .second, iv sl, iv mo, .val (.long m1), .second, .val (.long l1), .second, .unset, .unset, .unset, .unset, .unset, .unset, .unset, .unset, .unset, .unset, .unset] []) (fun _ k => XS.icmpYes X0.here hx rfl (pc0 := 28) (pc' := 38) rfl (hb hby at_28) rfl (feq hj2).2 (by decide) (by decide) k) ?_
        refine own_s (mkF m 40 #[.val (.long m1), .second, .val (.long l1), .second, .val (.long pp), .second, .val (.long qq), .second, iv sl, iv mo, .val (.long m1), .second, .val (.long l1), .second, .unset, .unset, .unset, .unset, .unset, .unset, .unset, .unset, .unset, .unset, .unset] [(.int mo)]) (fun _ k => XS.iload X0.here hx rfl (hb hby at_38) rfl k) ?_
        refine own_s (mkF m 41 #[.val (.long m1), .second, .val (.long l1), .second, .val (.long pp), .second, .val (.long qq), .second, iv sl, iv mo, .val (.long m1), .second, .val (.long l1), .second, .unset, .unset, .unset, .unset, .unset, .unset, .unset, .unset, .unset, .unset, .unset] [(.int 3), (.int mo)]) (fun _ k => XS.iconst X0.here hx rfl (hb hby at_40) k) ?_
        by_cases hj3 : mo = (3 : Int32)
        ·
          refine own_s (mkF m 44 #[.val (.long m1), .second, .val (.long l1), .second, .val (.long pp), .second, .val (.long qq), .second, iv sl, iv mo, .val (.long m1), .second, .val (.long l1), .second, .unset, .unset, .unset, .unset, .unset, .unset, .unset, .unset, .unset, .unset, .unset] []) (fun _ k => XS.icmpNo X0.here hx rfl (hb hby at_41) rfl (teq hj3).2 k) ?_
          refine own_s (mkF m 46 #[.val (.long m1), .second, .val (.long l1), .second, .val (.long pp), .second, .val (.long qq), .second, iv sl, iv mo, .val (.long m1), .second, .val (.long l1), .second, .unset, .unset, .unset, .unset, .unset, .unset, .unset, .unset, .unset, .unset, .unset] [(.long pp)]) (fun _ k => XS.lload X0.here hx rfl (hb hby at_44) rfl k) ?_
          refine own_s (mkF m 48 #[.val (.long m1), .second, .val (.long l1), .second, .val (.long pp), .second, .val (.long qq), .second, iv sl, iv mo, .val (.long pp), .second, .val (.long l1), .second, .unset, .unset, .unset, .unset, .unset, .unset, .unset, .unset, .unset, .unset, .unset] []) (fun _ k => XS.lstore X0.here hx rfl (hb hby at_46) rfl (l' := #[.val (.long m1), .second, .val (.long l1), .second, .val (.long pp), .second, .val (.long qq), .second, iv sl, iv mo, .val (.long pp), .second, .val (.long l1), .second, .unset, .unset, .unset, .unset, .unset, .unset, .unset, .unset, .unset, .unset, .unset]) rfl k) ?_
          refine own_s (mkF m 50 #[.val (.long m1), .second, .val (.long l1), .second, .val (.long pp), .second, .val (.long qq), .second, iv sl, iv mo, .val (.long pp), .second, .val (.long l1), .second, .unset, .unset, .unset, .unset, .unset, .unset, .unset, .unset, .unset, .unset, .unset] [(.long qq)]) (fun _ k => XS.lload X0.here hx rfl (hb hby at_48) rfl k) ?_
          refine own_s (mkF m 52 #[.val (.long m1), .second, .val (.long l1), .second, .val (.long pp), .second, .val (.long qq), .second, iv sl, iv mo, .val (.long pp), .second, .val (.long qq), .second, .unset, .unset, .unset, .unset, .unset, .unset, .unset, .unset, .unset, .unset, .unset] []) (fun _ k => XS.lstore X0.here hx rfl (hb hby at_50) rfl (l' := #[.val (.long m1), .second, .val (.long l1), .second, .val (.long pp), .second, .val (.long qq), .second, iv sl, iv mo, .val (.long pp), .second, .val (.long qq), .second, .unset, .unset, .unset, .unset, .unset, .unset, .unset, .unset, .unset, .unset, .unset]) rfl k) ?_
          rw [show m2 = pp from by rw [h_m2, if_neg hj1, if_neg hj2, if_pos hj3]] at k
          rw [show l2 = qq from by rw [h_l2, if_neg hj1, if_neg hj2, if_pos hj3]] at k
          exact k
        ·
          refine own_s (mkF m 52 #[.val (.long m1), .second, .val (.long l1), .second, .val (.long pp), .second, .val (.long qq), .second, iv sl, iv mo, .val (.long m1), .second, .val (.long l1), .second, .unset, .unset, .unset, .unset, .unset, .unset, .unset, .unset, .unset, .unset, .unset] []) (fun _ k => XS.icmpYes X0.here hx rfl (pc0 := 41) (pc' := 52) rfl (hb hby at_41) rfl (feq hj3).2 (by decide) (by decide) k) ?_
          rw [show m2 = m1 from by rw [h_m2, if_neg hj1, if_neg hj2, if_neg hj3]] at k
          rw [show l2 = l1 from by rw [h_l2, if_neg hj1, if_neg hj2, if_neg hj3]] at k
          exact k
  refine own_S (mkF m 53 #[.val (.long m1), .second, .val (.long l1), .second, .val (.long pp), .second, .val (.long qq), .second, iv sl, iv mo, .val (.long m2), .second, .val (.long l2), .second, .unset, .unset, .unset, .unset, .unset, .unset, .unset, .unset, .unset, .unset, .unset] [(.long m1)]) (fun _ k => XS.lloadN X0.here hx rfl (hb hby at_52) rfl k) ?_
  refine own_S (mkF m 54 #[.val (.long m1), .second, .val (.long l1), .second, .val (.long pp), .second, .val (.long qq), .second, iv sl, iv mo, .val (.long m2), .second, .val (.long l2), .second, .unset, .unset, .unset, .unset, .unset, .unset, .unset, .unset, .unset, .unset, .unset] [(.long 0), (.long m1)]) (fun _ k => XS.lconst X0.here hx rfl (hb hby at_53) k) ?_
  refine own_S (mkF m 55 #[.val (.long m1), .second, .val (.long l1), .second, .val (.long pp), .second, .val (.long qq), .second, iv sl, iv mo, .val (.long m2), .second, .val (.long l2), .second, .unset, .unset, .unset, .unset, .unset, .unset, .unset, .unset, .unset, .unset, .unset] [(.int (lcmpW m1 (0 : Int64)))]) (fun _ k => XS.lcmp X0.here hx rfl (hb hby at_54) rfl k) ?_
  suffices hmid4 : (¬ (m1 = (0 : Int64) ∧ l1 = (0 : Int64))) → own_E p e below (own_K s (own_Qlaw Z m1 l1 pp qq sl ca h0 n0) room_1.cells room_1.slots) s₁ (mkF m 66 #[.val (.long m1), .second, .val (.long l1), .second, .val (.long pp), .second, .val (.long qq), .second, iv sl, iv mo, .val (.long m2), .second, .val (.long l2), .second, .unset, .unset, .unset, .unset, .unset, .unset, .unset, .unset, .unset, .unset, .unset] []) by
    by_cases h1 : m1 = (0 : Int64)
    · -- m1 = (0 : Int64)
      refine own_S (mkF m 58 #[.val (.long m1), .second, .val (.long l1), .second, .val (.long pp), .second, .val (.long qq), .second, iv sl, iv mo, .val (.long m2), .second, .val (.long l2), .second, .unset, .unset, .unset, .unset, .unset, .unset, .unset, .unset, .unset, .unset, .unset] []) (fun _ k => XS.ifNo X0.here hx rfl (hb hby at_55) rfl ((if0 _ _).trans (teq ((lw_eq m1 (0 : Int64)).mpr h1)).2) k) ?_
      refine own_S (mkF m 59 #[.val (.long m1), .second, .val (.long l1), .second, .val (.long pp), .second, .val (.long qq), .second, iv sl, iv mo, .val (.long m2), .second, .val (.long l2), .second, .unset, .unset, .unset, .unset, .unset, .unset, .unset, .unset, .unset, .unset, .unset] [(.long l1)]) (fun _ k => XS.lloadN X0.here hx rfl (hb hby at_58) rfl k) ?_
      refine own_S (mkF m 60 #[.val (.long m1), .second, .val (.long l1), .second, .val (.long pp), .second, .val (.long qq), .second, iv sl, iv mo, .val (.long m2), .second, .val (.long l2), .second, .unset, .unset, .unset, .unset, .unset, .unset, .unset, .unset, .unset, .unset, .unset] [(.long 0), (.long l1)]) (fun _ k => XS.lconst X0.here hx rfl (hb hby at_59) k) ?_
      refine own_S (mkF m 61 #[.val (.long m1), .second, .val (.long l1), .second, .val (.long pp), .second, .val (.long qq), .second, iv sl, iv mo, .val (.long m2), .second, .val (.long l2), .second, .unset, .unset, .unset, .unset, .unset, .unset, .unset, .unset, .unset, .unset, .unset] [(.int (lcmpW l1 (0 : Int64)))]) (fun _ k => XS.lcmp X0.here hx rfl (hb hby at_60) rfl k) ?_
      by_cases h2 : l1 = (0 : Int64)
      · -- l1 = (0 : Int64)
        refine own_S (mkF m 64 #[.val (.long m1), .second, .val (.long l1), .second, .val (.long pp), .second, .val (.long qq), .second, iv sl, iv mo, .val (.long m2), .second, .val (.long l2), .second, .unset, .unset, .unset, .unset, .unset, .unset, .unset, .unset, .unset, .unset, .unset] []) (fun _ k => XS.ifNo X0.here hx rfl (hb hby at_61) rfl ((if0 _ _).trans (teq ((lw_eq l1 (0 : Int64)).mpr h2)).2) k) ?_
        refine own_S (mkF m 65 #[.val (.long m1), .second, .val (.long l1), .second, .val (.long pp), .second, .val (.long qq), .second, iv sl, iv mo, .val (.long m2), .second, .val (.long l2), .second, .unset, .unset, .unset, .unset, .unset, .unset, .unset, .unset, .unset, .unset, .unset] [(.int 1)]) (fun _ k => XS.iconst X0.here hx rfl (hb hby at_64) k) ?_
        exact own_retN X0 hx hlk (t := .boolean) hret (by simp) (hb hby at_65) (by rw [e0]; exact ⟨rfl, N0, trivial⟩) (by decide) (by decide)
      · -- not l1 = (0 : Int64)
        refine own_S (mkF m 66 #[.val (.long m1), .second, .val (.long l1), .second, .val (.long pp), .second, .val (.long qq), .second, iv sl, iv mo, .val (.long m2), .second, .val (.long l2), .second, .unset, .unset, .unset, .unset, .unset, .unset, .unset, .unset, .unset, .unset, .unset] []) (fun _ k => XS.ifYes X0.here hx rfl (pc0 := 61) (pc' := 66) rfl (hb hby at_61) rfl ((if0 _ _).trans (feq (fun q => h2 ((lw_eq l1 (0 : Int64)).mp q))).2) (by decide) (by decide) k) ?_
        exact hmid4 (fun q => h2 q.2)
    · -- not m1 = (0 : Int64)
      refine own_S (mkF m 66 #[.val (.long m1), .second, .val (.long l1), .second, .val (.long pp), .second, .val (.long qq), .second, iv sl, iv mo, .val (.long m2), .second, .val (.long l2), .second, .unset, .unset, .unset, .unset, .unset, .unset, .unset, .unset, .unset, .unset, .unset] []) (fun _ k => XS.ifYes X0.here hx rfl (pc0 := 55) (pc' := 66) rfl (hb hby at_55) rfl ((if0 _ _).trans (feq (fun q => h1 ((lw_eq m1 (0 : Int64)).mp q))).2) (by decide) (by decide) k) ?_
      exact hmid4 (fun q => h1 q.1)
  intro hz1
  refine own_S (mkF m 68 #[.val (.long m1), .second, .val (.long l1), .second, .val (.long pp), .second, .val (.long qq), .second, iv sl, iv mo, .val (.long m2), .second, .val (.long l2), .second, .unset, .unset, .unset, .unset, .unset, .unset, .unset, .unset, .unset, .unset, .unset] [(.long m2)]) (fun _ k => XS.lload X0.here hx rfl (hb hby at_66) rfl k) ?_
  refine own_S (mkF m 69 #[.val (.long m1), .second, .val (.long l1), .second, .val (.long pp), .second, .val (.long qq), .second, iv sl, iv mo, .val (.long m2), .second, .val (.long l2), .second, .unset, .unset, .unset, .unset, .unset, .unset, .unset, .unset, .unset, .unset, .unset] [(.long 0), (.long m2)]) (fun _ k => XS.lconst X0.here hx rfl (hb hby at_68) k) ?_
  refine own_S (mkF m 70 #[.val (.long m1), .second, .val (.long l1), .second, .val (.long pp), .second, .val (.long qq), .second, iv sl, iv mo, .val (.long m2), .second, .val (.long l2), .second, .unset, .unset, .unset, .unset, .unset, .unset, .unset, .unset, .unset, .unset, .unset] [(.int (lcmpW m2 (0 : Int64)))]) (fun _ k => XS.lcmp X0.here hx rfl (hb hby at_69) rfl k) ?_
  suffices hmid5 : (¬ (m2 = (0 : Int64) ∧ l2 = (0 : Int64))) → own_E p e below (own_K s (own_Qlaw Z m1 l1 pp qq sl ca h0 n0) room_1.cells room_1.slots) s₁ (mkF m 82 #[.val (.long m1), .second, .val (.long l1), .second, .val (.long pp), .second, .val (.long qq), .second, iv sl, iv mo, .val (.long m2), .second, .val (.long l2), .second, .unset, .unset, .unset, .unset, .unset, .unset, .unset, .unset, .unset, .unset, .unset] []) by
    by_cases h1 : m2 = (0 : Int64)
    · -- m2 = (0 : Int64)
      refine own_S (mkF m 73 #[.val (.long m1), .second, .val (.long l1), .second, .val (.long pp), .second, .val (.long qq), .second, iv sl, iv mo, .val (.long m2), .second, .val (.long l2), .second, .unset, .unset, .unset, .unset, .unset, .unset, .unset, .unset, .unset, .unset, .unset] []) (fun _ k => XS.ifNo X0.here hx rfl (hb hby at_70) rfl ((if0 _ _).trans (teq ((lw_eq m2 (0 : Int64)).mpr h1)).2) k) ?_
      refine own_S (mkF m 75 #[.val (.long m1), .second, .val (.long l1), .second, .val (.long pp), .second, .val (.long qq), .second, iv sl, iv mo, .val (.long m2), .second, .val (.long l2), .second, .unset, .unset, .unset, .unset, .unset, .unset, .unset, .unset, .unset, .unset, .unset] [(.long l2)]) (fun _ k => XS.lload X0.here hx rfl (hb hby at_73) rfl k) ?_
      refine own_S (mkF m 76 #[.val (.long m1), .second, .val (.long l1), .second, .val (.long pp), .second, .val (.long qq), .second, iv sl, iv mo, .val (.long m2), .second, .val (.long l2), .second, .unset, .unset, .unset, .unset, .unset, .unset, .unset, .unset, .unset, .unset, .unset] [(.long 0), (.long l2)]) (fun _ k => XS.lconst X0.here hx rfl (hb hby at_75) k) ?_
      refine own_S (mkF m 77 #[.val (.long m1), .second, .val (.long l1), .second, .val (.long pp), .second, .val (.long qq), .second, iv sl, iv mo, .val (.long m2), .second, .val (.long l2), .second, .unset, .unset, .unset, .unset, .unset, .unset, .unset, .unset, .unset, .unset, .unset] [(.int (lcmpW l2 (0 : Int64)))]) (fun _ k => XS.lcmp X0.here hx rfl (hb hby at_76) rfl k) ?_
      by_cases h2 : l2 = (0 : Int64)
      · -- l2 = (0 : Int64)
        refine own_S (mkF m 80 #[.val (.long m1), .second, .val (.long l1), .second, .val (.long pp), .second, .val (.long qq), .second, iv sl, iv mo, .val (.long m2), .second, .val (.long l2), .second, .unset, .unset, .unset, .unset, .unset, .unset, .unset, .unset, .unset, .unset, .unset] []) (fun _ k => XS.ifNo X0.here hx rfl (hb hby at_77) rfl ((if0 _ _).trans (teq ((lw_eq l2 (0 : Int64)).mpr h2)).2) k) ?_
        refine own_S (mkF m 81 #[.val (.long m1), .second, .val (.long l1), .second, .val (.long pp), .second, .val (.long qq), .second, iv sl, iv mo, .val (.long m2), .second, .val (.long l2), .second, .unset, .unset, .unset, .unset, .unset, .unset, .unset, .unset, .unset, .unset, .unset] [(.int 1)]) (fun _ k => XS.iconst X0.here hx rfl (hb hby at_80) k) ?_
        exact own_retN X0 hx hlk (t := .boolean) hret (by simp) (hb hby at_81) (by rw [e0]; exact ⟨rfl, N0, trivial⟩) (by decide) (by decide)
      · -- not l2 = (0 : Int64)
        refine own_S (mkF m 82 #[.val (.long m1), .second, .val (.long l1), .second, .val (.long pp), .second, .val (.long qq), .second, iv sl, iv mo, .val (.long m2), .second, .val (.long l2), .second, .unset, .unset, .unset, .unset, .unset, .unset, .unset, .unset, .unset, .unset, .unset] []) (fun _ k => XS.ifYes X0.here hx rfl (pc0 := 77) (pc' := 82) rfl (hb hby at_77) rfl ((if0 _ _).trans (feq (fun q => h2 ((lw_eq l2 (0 : Int64)).mp q))).2) (by decide) (by decide) k) ?_
        exact hmid5 (fun q => h2 q.2)
    · -- not m2 = (0 : Int64)
      refine own_S (mkF m 82 #[.val (.long m1), .second, .val (.long l1), .second, .val (.long pp), .second, .val (.long qq), .second, iv sl, iv mo, .val (.long m2), .second, .val (.long l2), .second, .unset, .unset, .unset, .unset, .unset, .unset, .unset, .unset, .unset, .unset, .unset] []) (fun _ k => XS.ifYes X0.here hx rfl (pc0 := 70) (pc' := 82) rfl (hb hby at_70) rfl ((if0 _ _).trans (feq (fun q => h1 ((lw_eq m2 (0 : Int64)).mp q))).2) (by decide) (by decide) k) ?_
      exact hmid5 (fun q => h1 q.1)
  intro hz2
  obtain ⟨T6, h6, X6, e6, E6, A6, D6, -, st6⟩ := newO X0 hx hZ hown (own_g hw (i := 0) rfl) (own_g hw (i := 1) rfl) (own_g hw (i := 2) rfl) e0 (g := (mkF m 82 #[.val (.long m1), .second, .val (.long l1), .second, .val (.long pp), .second, .val (.long qq), .second, iv sl, iv mo, .val (.long m2), .second, .val (.long l2), .second, .unset, .unset, .unset, .unset, .unset, .unset, .unset, .unset, .unset, .unset, .unset] [])) rfl (hb hby at_82) (by decide) (by decide)
  obtain ⟨a1, g6⟩ : ∃ z, z = h0.size := ⟨_, rfl⟩
  rw [← g6] at A6 D6 st6
  have ge_a1 : n0 ≤ a1 := Nat.le_trans Z0 (Nat.le_of_eq g6.symm)
  have F7 := P0.ext E6
  have Z6 : n0 ≤ h6.size := Nat.le_trans Z0 E6.1
  have F8 : Fld Z h6 a1 "com/example/stickler/stickler/metadata/TopicId" "mostSignificantBits" "J" (.long (0 : Int64)) := D6 (Or.inr (own_g hw (i := 10) rfl)) (ty := .long) (by decide)
  have F9 : Fld Z h6 a1 "com/example/stickler/stickler/metadata/TopicId" "leastSignificantBits" "J" (.long (0 : Int64)) := D6 (Or.inr (own_g hw (i := 12) rfl)) (ty := .long) (by decide)
  refine own_S (mkF m 85 #[.val (.long m1), .second, .val (.long l1), .second, .val (.long pp), .second, .val (.long qq), .second, iv sl, iv mo, .val (.long m2), .second, .val (.long l2), .second, .unset, .unset, .unset, .unset, .unset, .unset, .unset, .unset, .unset, .unset, .unset] [(.ref a1)]) st6 ?_
  refine own_S (mkF m 86 #[.val (.long m1), .second, .val (.long l1), .second, .val (.long pp), .second, .val (.long qq), .second, iv sl, iv mo, .val (.long m2), .second, .val (.long l2), .second, .unset, .unset, .unset, .unset, .unset, .unset, .unset, .unset, .unset, .unset, .unset] [(.ref a1), (.ref a1)]) (fun _ k => XS.dup X6.here hx rfl (hb hby at_85) rfl rfl k) ?_
  refine own_S (mkF m 87 #[.val (.long m1), .second, .val (.long l1), .second, .val (.long pp), .second, .val (.long qq), .second, iv sl, iv mo, .val (.long m2), .second, .val (.long l2), .second, .unset, .unset, .unset, .unset, .unset, .unset, .unset, .unset, .unset, .unset, .unset] [(.long m1), (.ref a1), (.ref a1)]) (fun _ k => XS.lloadN X6.here hx rfl (hb hby at_86) rfl k) ?_
  refine own_S (mkF m 88 #[.val (.long m1), .second, .val (.long l1), .second, .val (.long pp), .second, .val (.long qq), .second, iv sl, iv mo, .val (.long m2), .second, .val (.long l2), .second, .unset, .unset, .unset, .unset, .unset, .unset, .unset, .unset, .unset, .unset, .unset] [(.long l1), (.long m1), (.ref a1), (.ref a1)]) (fun _ k => XS.lloadN X6.here hx rfl (hb hby at_87) rfl k) ?_
  obtain ⟨_, _, ⟨T10, L10, k10, n10⟩, -, X10, ⟨Lc10, hQ10, l10, y10, z10⟩, st10⟩ := X6.specialBack hx (y := own_y0) rfl hown (mvT hZ (own_g hw (i := 3) rfl)) (mvT hZ (own_g hw (i := 4) rfl)) (mvT hZ (own_g hw (i := 5) rfl)) (by decide) (backOf (W := 1) (own_rmini l Z a0 hw [] (a1) (m1) (l1) ((.long (0 : Int64))) ((.long (0 : Int64))) h6 n0 Z6 A6 F8 F9 ge_a1 hz1) hZ (own_g hw (i := 5) rfl) (own_g hw (i := 2) rfl) (by decide) (by decide)) (g := (mkF m 88 #[.val (.long m1), .second, .val (.long l1), .second, .val (.long pp), .second, .val (.long qq), .second, iv sl, iv mo, .val (.long m2), .second, .val (.long l2), .second, .unset, .unset, .unset, .unset, .unset, .unset, .unset, .unset, .unset, .unset, .unset] [(.long l1), (.long m1), (.ref a1), (.ref a1)])) rfl (by rw [hml]; rfl) (Steps.refl _) (a := a1) (argsL := [(.long m1), (.long l1)]) (rest := [(.ref a1)]) (lenOf own_pd__JJ_V rfl) rfl (by show 2 * 0 + _ ≤ _; exact Nat.le_of_eq rfl) (hb hby at_88) (fun _ _ => ⟨rfl, e6, (by decide : 1 + 0 ≤ _), (by decide : 2 + 0 ≤ _)⟩)
  dsimp only [Pt.U, Pt.locs, Pt.cells, Pt.slots] at X10 l10 y10 z10 st10 hQ10
  subst l10 y10 z10
  obtain ⟨rfl, N10q, K10q, F11, F12, F13⟩ := hQ10
  have N10 := Fr.app N0 N10q
  refine own_S (mkF m 91 #[.val (.long m1), .second, .val (.long l1), .second, .val (.long pp), .second, .val (.long qq), .second, iv sl, iv mo, .val (.long m2), .second, .val (.long l2), .second, .unset, .unset, .unset, .unset, .unset, .unset, .unset, .unset, .unset, .unset, .unset] [(.ref a1)]) (fun _ k => st10.trans k) ?_
  have F14 := F7.keep K10q (allS ge_a1 all0)
  have Z10 : n0 ≤ T10.heap.size := Nat.le_trans Z6 K10q.1
  refine own_S (mkF m 93 #[.val (.long m1), .second, .val (.long l1), .second, .val (.long pp), .second, .val (.long qq), .second, iv sl, iv mo, .val (.long m2), .second, .val (.long l2), .second, rv a1, .unset, .unset, .unset, .unset, .unset, .unset, .unset, .unset, .unset, .unset] []) (fun _ k => XS.astore X10.here hx rfl (hb hby at_91) rfl rfl (l' := #[.val (.long m1), .second, .val (.long l1), .second, .val (.long pp), .second, .val (.long qq), .second, iv sl, iv mo, .val (.long m2), .second, .val (.long l2), .second, rv a1, .unset, .unset, .unset, .unset, .unset, .unset, .unset, .unset, .unset, .unset]) rfl k) ?_
  obtain ⟨T15, h15, X15, e15, E15, A15, D15, -, st15⟩ := newO X10 hx hZ hown (own_g hw (i := 0) rfl) (own_g hw (i := 1) rfl) (own_g hw (i := 2) rfl) rfl (g := (mkF m 93 #[.val (.long m1), .second, .val (.long l1), .second, .val (.long pp), .second, .val (.long qq), .second, iv sl, iv mo, .val (.long m2), .second, .val (.long l2), .second, rv a1, .unset, .unset, .unset, .unset, .unset, .unset, .unset, .unset, .unset, .unset] [])) rfl (hb hby at_93) (by decide) (by decide)
  obtain ⟨a2, g15⟩ : ∃ z, z = T10.heap.size := ⟨_, rfl⟩
  rw [← g15] at A15 D15 st15
  have n16 : a1 ≠ a2 := Nat.ne_of_lt (Nat.lt_of_lt_of_eq F11.lt g15.symm)
  have ge_a2 : n0 ≤ a2 := Nat.le_trans Z10 (Nat.le_of_eq g15.symm)
  have F17 := F14.ext E15
  have F18 := F11.ext E15
  have F19 := F12.ext E15
  have F20 := F13.ext E15
  have Z15 : n0 ≤ h15.size := Nat.le_trans Z10 E15.1
  have F21 : Fld Z h15 a2 "com/example/stickler/stickler/metadata/TopicId" "mostSignificantBits" "J" (.long (0 : Int64)) := D15 (Or.inr (own_g hw (i := 10) rfl)) (ty := .long) (by decide)
  have F22 : Fld Z h15 a2 "com/example/stickler/stickler/metadata/TopicId" "leastSignificantBits" "J" (.long (0 : Int64)) := D15 (Or.inr (own_g hw (i := 12) rfl)) (ty := .long) (by decide)
  refine own_S (mkF m 96 #[.val (.long m1), .second, .val (.long l1), .second, .val (.long pp), .second, .val (.long qq), .second, iv sl, iv mo, .val (.long m2), .second, .val (.long l2), .second, rv a1, .unset, .unset, .unset, .unset, .unset, .unset, .unset, .unset, .unset, .unset] [(.ref a2)]) st15 ?_
  refine own_S (mkF m 97 #[.val (.long m1), .second, .val (.long l1), .second, .val (.long pp), .second, .val (.long qq), .second, iv sl, iv mo, .val (.long m2), .second, .val (.long l2), .second, rv a1, .unset, .unset, .unset, .unset, .unset, .unset, .unset, .unset, .unset, .unset] [(.ref a2), (.ref a2)]) (fun _ k => XS.dup X15.here hx rfl (hb hby at_96) rfl rfl k) ?_
  refine own_S (mkF m 99 #[.val (.long m1), .second, .val (.long l1), .second, .val (.long pp), .second, .val (.long qq), .second, iv sl, iv mo, .val (.long m2), .second, .val (.long l2), .second, rv a1, .unset, .unset, .unset, .unset, .unset, .unset, .unset, .unset, .unset, .unset] [(.long m2), (.ref a2), (.ref a2)]) (fun _ k => XS.lload X15.here hx rfl (hb hby at_97) rfl k) ?_
  refine own_S (mkF m 101 #[.val (.long m1), .second, .val (.long l1), .second, .val (.long pp), .second, .val (.long qq), .second, iv sl, iv mo, .val (.long m2), .second, .val (.long l2), .second, rv a1, .unset, .unset, .unset, .unset, .unset, .unset, .unset, .unset, .unset, .unset] [(.long l2), (.long m2), (.ref a2), (.ref a2)]) (fun _ k => XS.lload X15.here hx rfl (hb hby at_99) rfl k) ?_
  obtain ⟨_, _, ⟨T23, L23, k23, n23⟩, -, X23, ⟨Lc23, hQ23, l23, y23, z23⟩, st23⟩ := X15.specialBack hx (y := own_y0) rfl hown (mvT hZ (own_g hw (i := 3) rfl)) (mvT hZ (own_g hw (i := 4) rfl)) (mvT hZ (own_g hw (i := 5) rfl)) (by decide) (backOf (W := 1) (own_rmini l Z a0 hw [] (a2) (m2) (l2) ((.long (0 : Int64))) ((.long (0 : Int64))) h15 n0 Z15 A15 F21 F22 ge_a2 hz2) hZ (own_g hw (i := 5) rfl) (own_g hw (i := 2) rfl) (by decide) (by decide)) (g := (mkF m 101 #[.val (.long m1), .second, .val (.long l1), .second, .val (.long pp), .second, .val (.long qq), .second, iv sl, iv mo, .val (.long m2), .second, .val (.long l2), .second, rv a1, .unset, .unset, .unset, .unset, .unset, .unset, .unset, .unset, .unset, .unset] [(.long l2), (.long m2), (.ref a2), (.ref a2)])) rfl (by rw [hml]; rfl) (Steps.refl _) (a := a2) (argsL := [(.long m2), (.long l2)]) (rest := [(.ref a2)]) (lenOf own_pd__JJ_V rfl) rfl (by show 2 * 0 + _ ≤ _; exact Nat.le_of_eq rfl) (hb hby at_101) (fun _ _ => ⟨rfl, e15, (by decide : 2 + 0 ≤ _), (by decide : 4 + 0 ≤ _)⟩)
  dsimp only [Pt.U, Pt.locs, Pt.cells, Pt.slots] at X23 l23 y23 z23 st23 hQ23
  subst l23 y23 z23
  obtain ⟨rfl, N23q, K23q, F24, F25, F26⟩ := hQ23
  have N23 := Fr.app N10 N23q
  refine own_S (mkF m 104 #[.val (.long m1), .second, .val (.long l1), .second, .val (.long pp), .second, .val (.long qq), .second, iv sl, iv mo, .val (.long m2), .second, .val (.long l2), .second, rv a1, .unset, .unset, .unset, .unset, .unset, .unset, .unset, .unset, .unset, .unset] [(.ref a2)]) (fun _ k => st23.trans k) ?_
  have F27 := F17.keep K23q (allS ge_a2 all0)
  have F28 := F18.keep K23q
  have F29 := F19.keep K23q (ninS n16 nin0)
  have F30 := F20.keep K23q (ninS n16 nin0)
  have Z23 : n0 ≤ T23.heap.size := Nat.le_trans Z15 K23q.1
  refine own_S (mkF m 106 #[.val (.long m1), .second, .val (.long l1), .second, .val (.long pp), .second, .val (.long qq), .second, iv sl, iv mo, .val (.long m2), .second, .val (.long l2), .second, rv a1, rv a2, .unset, .unset, .unset, .unset, .unset, .unset, .unset, .unset, .unset] []) (fun _ k => XS.astore X23.here hx rfl (hb hby at_104) rfl rfl (l' := #[.val (.long m1), .second, .val (.long l1), .second, .val (.long pp), .second, .val (.long qq), .second, iv sl, iv mo, .val (.long m2), .second, .val (.long l2), .second, rv a1, rv a2, .unset, .unset, .unset, .unset, .unset, .unset, .unset, .unset, .unset]) rfl k) ?_
  refine own_S (mkF m 107 #[.val (.long m1), .second, .val (.long l1), .second, .val (.long pp), .second, .val (.long qq), .second, iv sl, iv mo, .val (.long m2), .second, .val (.long l2), .second, rv a1, rv a2, .unset, .unset, .unset, .unset, .unset, .unset, .unset, .unset, .unset] [(.long m1)]) (fun _ k => XS.lloadN X23.here hx rfl (hb hby at_106) rfl k) ?_
  refine own_S (mkF m 109 #[.val (.long m1), .second, .val (.long l1), .second, .val (.long pp), .second, .val (.long qq), .second, iv sl, iv mo, .val (.long m2), .second, .val (.long l2), .second, rv a1, rv a2, .unset, .unset, .unset, .unset, .unset, .unset, .unset, .unset, .unset] [(.long m2), (.long m1)]) (fun _ k => XS.lload X23.here hx rfl (hb hby at_107) rfl k) ?_
  refine own_S (mkF m 110 #[.val (.long m1), .second, .val (.long l1), .second, .val (.long pp), .second, .val (.long qq), .second, iv sl, iv mo, .val (.long m2), .second, .val (.long l2), .second, rv a1, rv a2, .unset, .unset, .unset, .unset, .unset, .unset, .unset, .unset, .unset] [(.int (lcmpW m1 m2))]) (fun _ k => XS.lcmp X23.here hx rfl (hb hby at_109) rfl k) ?_
  obtain ⟨xp, h_xp⟩ : ∃ z : Int32, z = (if m1 = m2 then (if l1 = l2 then (1 : Int32) else (0 : Int32)) else (0 : Int32)) := ⟨_, rfl⟩
  refine own_S (T' := T23) (mkF m 125 #[.val (.long m1), .second, .val (.long l1), .second, .val (.long pp), .second, .val (.long qq), .second, iv sl, iv mo, .val (.long m2), .second, .val (.long l2), .second, rv a1, rv a2, .unset, .unset, .unset, .unset, .unset, .unset, .unset, .unset, .unset] [(.int xp)]) (fun _ k => ?_) ?_
  ·
    by_cases hj31 : m1 = m2
    ·
      refine own_s (mkF m 113 #[.val (.long m1), .second, .val (.long l1), .second, .val (.long pp), .second, .val (.long qq), .second, iv sl, iv mo, .val (.long m2), .second, .val (.long l2), .second, rv a1, rv a2, .unset, .unset, .unset, .unset, .unset, .unset, .unset, .unset, .unset] []) (fun _ k => XS.ifNo X23.here hx rfl (hb hby at_110) rfl ((if0 _ _).trans (teq ((lw_eq m1 m2).mpr hj31)).2) k) ?_
      refine own_s (mkF m 114 #[.val (.long m1), .second, .val (.long l1), .second, .val (.long pp), .second, .val (.long qq), .second, iv sl, iv mo, .val (.long m2), .second, .val (.long l2), .second, rv a1, rv a2, .unset, .unset, .unset, .unset, .unset, .unset, .unset, .unset, .unset] [(.long l1)]) (fun _ k => XS.lloadN X23.here hx rfl (hb hby at_113) rfl k) ?_
      refine own_s (mkF m 116 #[.val (.long m1), .second, .val (.long l1), .second, .val (.long pp), .second, .val (.long qq), .second, iv sl, iv mo, .val (.long m2), .second, .val (.long l2), .second, rv a1, rv a2, .unset, .unset, .unset, .unset, .unset, .unset, .unset, .unset, .unset] [(.long l2), (.long l1)]) (fun _ k => XS.lload X23.here hx rfl (hb hby at_114) rfl k) ?_
      refine own_s (mkF m 117 #[.val (.long m1), .second, .val (.long l1), .second, .val (.long pp), .second, .val (.long qq), .second, iv sl, iv mo, .val (.long m2), .second, .val (.long l2), .second, rv a1, rv a2, .unset, .unset, .unset, .unset, .unset, .unset, .unset, .unset, .unset] [(.int (lcmpW l1 l2))]) (fun _ k => XS.lcmp X23.here hx rfl (hb hby at_116) rfl k) ?_
      by_cases hj32 : l1 = l2
      ·
        refine own_s (mkF m 120 #[.val (.long m1), .second, .val (.long l1), .second, .val (.long pp), .second, .val (.long qq), .second, iv sl, iv mo, .val (.long m2), .second, .val (.long l2), .second, rv a1, rv a2, .unset, .unset, .unset, .unset, .unset, .unset, .unset, .unset, .unset] []) (fun _ k => XS.ifNo X23.here hx rfl (hb hby at_117) rfl ((if0 _ _).trans (teq ((lw_eq l1 l2).mpr hj32)).2) k) ?_
        refine own_s (mkF m 121 #[.val (.long m1), .second, .val (.long l1), .second, .val (.long pp), .second, .val (.long qq), .second, iv sl, iv mo, .val (.long m2), .second, .val (.long l2), .second, rv a1, rv a2, .unset, .unset, .unset, .unset, .unset, .unset, .unset, .unset, .unset] [(.int 1)]) (fun _ k => XS.iconst X23.here hx rfl (hb hby at_120) k) ?_
        refine own_s (mkF m 125 #[.val (.long m1), .second, .val (.long l1), .second, .val (.long pp), .second, .val (.long qq), .second, iv sl, iv mo, .val (.long m2), .second, .val (.long l2), .second, rv a1, rv a2, .unset, .unset, .unset, .unset, .unset, .unset, .unset, .unset, .unset] [(.int 1)]) (fun _ k => XS.goto X23.here hx rfl (pc0 := 121) (pc' := 125) rfl (hb hby at_121) (by decide) (by decide) k) ?_
        rw [show xp = (1 : Int32) from by rw [h_xp, if_pos hj31, if_pos hj32]] at k
        exact k
      ·
        refine own_s (mkF m 124 #[.val (.long m1), .second, .val (.long l1), .second, .val (.long pp), .second, .val (.long qq), .second, iv sl, iv mo, .val (.long m2), .second, .val (.long l2), .second, rv a1, rv a2, .unset, .unset, .unset, .unset, .unset, .unset, .unset, .unset, .unset] []) (fun _ k => XS.ifYes X23.here hx rfl (pc0 := 117) (pc' := 124) rfl (hb hby at_117) rfl ((if0 _ _).trans (feq (fun q => hj32 ((lw_eq l1 l2).mp q))).2) (by decide) (by decide) k) ?_
        refine own_s (mkF m 125 #[.val (.long m1), .second, .val (.long l1), .second, .val (.long pp), .second, .val (.long qq), .second, iv sl, iv mo, .val (.long m2), .second, .val (.long l2), .second, rv a1, rv a2, .unset, .unset, .unset, .unset, .unset, .unset, .unset, .unset, .unset] [(.int 0)]) (fun _ k => XS.iconst X23.here hx rfl (hb hby at_124) k) ?_
        rw [show xp = (0 : Int32) from by rw [h_xp, if_pos hj31, if_neg hj32]] at k
        exact k
    ·
      refine own_s (mkF m 124 #[.val (.long m1), .second, .val (.long l1), .second, .val (.long pp), .second, .val (.long qq), .second, iv sl, iv mo, .val (.long m2), .second, .val (.long l2), .second, rv a1, rv a2, .unset, .unset, .unset, .unset, .unset, .unset, .unset, .unset, .unset] []) (fun _ k => XS.ifYes X23.here hx rfl (pc0 := 110) (pc' := 124) rfl (hb hby at_110) rfl ((if0 _ _).trans (feq (fun q => hj31 ((lw_eq m1 m2).mp q))).2) (by decide) (by decide) k) ?_
      refine own_s (mkF m 125 #[.val (.long m1), .second, .val (.long l1), .second, .val (.long pp), .second, .val (.long qq), .second, iv sl, iv mo, .val (.long m2), .second, .val (.long l2), .second, rv a1, rv a2, .unset, .unset, .unset, .unset, .unset, .unset, .unset, .unset, .unset] [(.int 0)]) (fun _ k => XS.iconst X23.here hx rfl (hb hby at_124) k) ?_
      rw [show xp = (0 : Int32) from by rw [h_xp, if_neg hj31]] at k
      exact k
  refine own_S (mkF m 127 #[.val (.long m1), .second, .val (.long l1), .second, .val (.long pp), .second, .val (.long qq), .second, iv sl, iv mo, .val (.long m2), .second, .val (.long l2), .second, rv a1, rv a2, iv xp, .unset, .unset, .unset, .unset, .unset, .unset, .unset, .unset] []) (fun _ k => XS.istore X23.here hx rfl (hb hby at_125) rfl (l' := #[.val (.long m1), .second, .val (.long l1), .second, .val (.long pp), .second, .val (.long qq), .second, iv sl, iv mo, .val (.long m2), .second, .val (.long l2), .second, rv a1, rv a2, iv xp, .unset, .unset, .unset, .unset, .unset, .unset, .unset, .unset]) rfl k) ?_
  refine own_S (mkF m 129 #[.val (.long m1), .second, .val (.long l1), .second, .val (.long pp), .second, .val (.long qq), .second, iv sl, iv mo, .val (.long m2), .second, .val (.long l2), .second, rv a1, rv a2, iv xp, .unset, .unset, .unset, .unset, .unset, .unset, .unset, .unset] [(.ref a1)]) (fun _ k => XS.aload X23.here hx rfl (hb hby at_127) rfl rfl k) ?_
  refine own_S (mkF m 131 #[.val (.long m1), .second, .val (.long l1), .second, .val (.long pp), .second, .val (.long qq), .second, iv sl, iv mo, .val (.long m2), .second, .val (.long l2), .second, rv a1, rv a2, iv xp, rv a1, .unset, .unset, .unset, .unset, .unset, .unset, .unset] []) (fun _ k => XS.astore X23.here hx rfl (hb hby at_129) rfl rfl (l' := #[.val (.long m1), .second, .val (.long l1), .second, .val (.long pp), .second, .val (.long qq), .second, iv sl, iv mo, .val (.long m2), .second, .val (.long l2), .second, rv a1, rv a2, iv xp, rv a1, .unset, .unset, .unset, .unset, .unset, .unset, .unset]) rfl k) ?_
  refine own_S (mkF m 133 #[.val (.long m1), .second, .val (.long l1), .second, .val (.long pp), .second, .val (.long qq), .second, iv sl, iv mo, .val (.long m2), .second, .val (.long l2), .second, rv a1, rv a2, iv xp, rv a1, .unset, .unset, .unset, .unset, .unset, .unset, .unset] [(.ref a2)]) (fun _ k => XS.aload X23.here hx rfl (hb hby at_131) rfl rfl k) ?_
  refine own_S (mkF m 135 #[.val (.long m1), .second, .val (.long l1), .second, .val (.long pp), .second, .val (.long qq), .second, iv sl, iv mo, .val (.long m2), .second, .val (.long l2), .second, rv a1, rv a2, iv xp, rv a1, rv a2, .unset, .unset, .unset, .unset, .unset, .unset] []) (fun _ k => XS.astore X23.here hx rfl (hb hby at_133) rfl rfl (l' := #[.val (.long m1), .second, .val (.long l1), .second, .val (.long pp), .second, .val (.long qq), .second, iv sl, iv mo, .val (.long m2), .second, .val (.long l2), .second, rv a1, rv a2, iv xp, rv a1, rv a2, .unset, .unset, .unset, .unset, .unset, .unset]) rfl k) ?_
  refine own_S (mkF m 136 #[.val (.long m1), .second, .val (.long l1), .second, .val (.long pp), .second, .val (.long qq), .second, iv sl, iv mo, .val (.long m2), .second, .val (.long l2), .second, rv a1, rv a2, iv xp, rv a1, rv a2, .unset, .unset, .unset, .unset, .unset, .unset] [(.long m1)]) (fun _ k => XS.lloadN X23.here hx rfl (hb hby at_135) rfl k) ?_
  obtain ⟨_, _, ⟨T33, L33, k33, n33⟩, -, X33, ⟨Lc33, hQ33, l33, y33, z33⟩, st33⟩ := Jvm.LawKit.callS X23 hx (y := own_y3) hown (mvT hZ (own_g hw (i := 13) rfl)) (mvT hZ (own_g hw (i := 14) rfl)) (mvT hZ (own_g hw (i := 15) rfl)) (mvT hZ (own_g hw (i := 16) rfl)) (by decide) (backOf (W := 0) (own_rmvo l Z a0 hw [] (m1) (ca) T23.heap n0 Z23 F27 hS hC) hZ (own_g hw (i := 16) rfl) (own_g hw (i := 15) rfl) (by decide) (by decide)) (g := (mkF m 136 #[.val (.long m1), .second, .val (.long l1), .second, .val (.long pp), .second, .val (.long qq), .second, iv sl, iv mo, .val (.long m2), .second, .val (.long l2), .second, rv a1, rv a2, iv xp, rv a1, rv a2, .unset, .unset, .unset, .unset, .unset, .unset] [(.long m1)])) rfl (by rw [hml]; rfl) (argsL := [(.long m1)]) (rest := []) (lenOf own_pd__J_Ljava_lang_Long_ rfl) rfl (by show 2 * 0 + _ ≤ _; exact Nat.le_of_eq rfl) (hb hby at_136) (fun _ _ => ⟨rfl, rfl, (by decide : 2 + 1 ≤ _), (by decide : 4 + 1 ≤ _)⟩)
  dsimp only [Pt.U, Pt.locs, Pt.cells, Pt.slots] at X33 l33 y33 z33 st33 hQ33
  subst l33 y33 z33
  obtain ⟨lg, rfl, N33q, K33q, F34, F35⟩ := hQ33
  have N33 := Fr.app N23 N33q
  refine own_S (mkF m 139 #[.val (.long m1), .second, .val (.long l1), .second, .val (.long pp), .second, .val (.long qq), .second, iv sl, iv mo, .val (.long m2), .second, .val (.long l2), .second, rv a1, rv a2, iv xp, rv a1, rv a2, .unset, .unset, .unset, .unset, .unset, .unset] [(.ref lg)]) (fun _ k => st33 _ k) ?_
  have F36 := F27.keep K33q all0
  have F37 := F28.keep K33q
  have F38 := F29.keep K33q nin0
  have F39 := F30.keep K33q nin0
  have F40 := F24.keep K33q
  have F41 := F25.keep K33q nin0
  have F42 := F26.keep K33q nin0
  have Z33 : n0 ≤ T33.heap.size := Nat.le_trans Z23 K33q.1
  refine own_S (mkF m 141 #[.val (.long m1), .second, .val (.long l1), .second, .val (.long pp), .second, .val (.long qq), .second, iv sl, iv mo, .val (.long m2), .second, .val (.long l2), .second, rv a1, rv a2, iv xp, rv a1, rv a2, rv lg, .unset, .unset, .unset, .unset, .unset] []) (fun _ k => XS.astore X33.here hx rfl (hb hby at_139) rfl rfl (l' := #[.val (.long m1), .second, .val (.long l1), .second, .val (.long pp), .second, .val (.long qq), .second, iv sl, iv mo, .val (.long m2), .second, .val (.long l2), .second, rv a1, rv a2, iv xp, rv a1, rv a2, rv lg, .unset, .unset, .unset, .unset, .unset]) rfl k) ?_
  refine own_S (mkF m 143 #[.val (.long m1), .second, .val (.long l1), .second, .val (.long pp), .second, .val (.long qq), .second, iv sl, iv mo, .val (.long m2), .second, .val (.long l2), .second, rv a1, rv a2, iv xp, rv a1, rv a2, rv lg, .unset, .unset, .unset, .unset, .unset] [(.ref a1)]) (fun _ k => XS.aload X33.here hx rfl (hb hby at_141) rfl rfl k) ?_
  refine own_S (mkF m 145 #[.val (.long m1), .second, .val (.long l1), .second, .val (.long pp), .second, .val (.long qq), .second, iv sl, iv mo, .val (.long m2), .second, .val (.long l2), .second, rv a1, rv a2, iv xp, rv a1, rv a2, rv lg, .unset, .unset, .unset, .unset, .unset] [(.ref a1), (.ref a1)]) (fun _ k => XS.aload X33.here hx rfl (hb hby at_143) rfl rfl k) ?_
  obtain ⟨cq43, kq43, q43a, q43b, q43c⟩ := isOf hZ rfl F37
  obtain ⟨_, _, ⟨T43, L43, k43, n43⟩, -, X43, ⟨Lc43, hQ43, l43, y43, z43⟩, st43⟩ := X33.virtualBack hx (y := own_y4) (z := own_y4) hown (mvT hZ (own_g hw (i := 21) rfl)) (mvT hZ (own_g hw (i := 22) rfl)) (notFace_of_selects (args := #[]) (mvT hZ (own_g hw (i := 24) rfl))) (mvT hZ (own_g hw (i := 24) rfl)) (mvT hZ (own_g hw (i := 23) rfl)) (by decide) (backOf (W := 0) (own_rme1 l Z a0 hw [] (a1) T33.heap n0 Z33 ) hZ (own_g hw (i := 25) rfl) (own_g hw (i := 2) rfl) (by decide) (by decide)) q43a q43c (g := (mkF m 145 #[.val (.long m1), .second, .val (.long l1), .second, .val (.long pp), .second, .val (.long qq), .second, iv sl, iv mo, .val (.long m2), .second, .val (.long l2), .second, rv a1, rv a2, iv xp, rv a1, rv a2, rv lg, .unset, .unset, .unset, .unset, .unset] [(.ref a1), (.ref a1)])) rfl (by rw [hml]; rfl) (Steps.refl _) (argsL := [(.ref a1)]) (rest := []) (lenOf own_pd__Ljava_lang_Object__Z rfl) rfl (by show 2 * 0 + _ ≤ _; exact Nat.le_of_eq rfl) (hb hby at_145) (fun _ _ => ⟨rfl, rfl, (by decide : 3 + 0 ≤ _), (by decide : 5 + 0 ≤ _)⟩)
  dsimp only [Pt.U, Pt.locs, Pt.cells, Pt.slots] at X43 l43 y43 z43 st43 hQ43
  subst l43 y43 z43
  obtain ⟨rfl, N43q, e43⟩ := hQ43
  have N43 := Fr.app N33 N43q
  refine own_S (mkF m 148 #[.val (.long m1), .second, .val (.long l1), .second, .val (.long pp), .second, .val (.long qq), .second, iv sl, iv mo, .val (.long m2), .second, .val (.long l2), .second, rv a1, rv a2, iv xp, rv a1, rv a2, rv lg, .unset, .unset, .unset, .unset, .unset] [(.int 1)]) (fun _ k => st43.trans k) ?_
  refine own_S (mkF m 150 #[.val (.long m1), .second, .val (.long l1), .second, .val (.long pp), .second, .val (.long qq), .second, iv sl, iv mo, .val (.long m2), .second, .val (.long l2), .second, rv a1, rv a2, iv xp, rv a1, rv a2, rv lg, .val (.int 1), .unset, .unset, .unset, .unset] []) (fun _ k => XS.istore X43.here hx rfl (hb hby at_148) rfl (l' := #[.val (.long m1), .second, .val (.long l1), .second, .val (.long pp), .second, .val (.long qq), .second, iv sl, iv mo, .val (.long m2), .second, .val (.long l2), .second, rv a1, rv a2, iv xp, rv a1, rv a2, rv lg, .val (.int 1), .unset, .unset, .unset, .unset]) rfl k) ?_
  refine own_S (mkF m 152 #[.val (.long m1), .second, .val (.long l1), .second, .val (.long pp), .second, .val (.long qq), .second, iv sl, iv mo, .val (.long m2), .second, .val (.long l2), .second, rv a1, rv a2, iv xp, rv a1, rv a2, rv lg, .val (.int 1), .unset, .unset, .unset, .unset] [(.ref a1)]) (fun _ k => XS.aload X43.here hx rfl (hb hby at_150) rfl rfl k) ?_
  refine own_S (mkF m 153 #[.val (.long m1), .second, .val (.long l1), .second, .val (.long pp), .second, .val (.long qq), .second, iv sl, iv mo, .val (.long m2), .second, .val (.long l2), .second, rv a1, rv a2, iv xp, rv a1, rv a2, rv lg, .val (.int 1), .unset, .unset, .unset, .unset] [.null, (.ref a1)]) (fun _ k => XS.aconstNull X43.here hx rfl (hb hby at_152) k) ?_
  obtain ⟨cq44, kq44, q44a, q44b, q44c⟩ := isOf hZ e43 F37
  obtain ⟨_, _, ⟨T44, L44, k44, n44⟩, -, X44, ⟨Lc44, hQ44, l44, y44, z44⟩, st44⟩ := X43.virtualBack hx (y := own_y4) (z := own_y4) hown (mvT hZ (own_g hw (i := 21) rfl)) (mvT hZ (own_g hw (i := 22) rfl)) (notFace_of_selects (args := #[]) (mvT hZ (own_g hw (i := 24) rfl))) (mvT hZ (own_g hw (i := 24) rfl)) (mvT hZ (own_g hw (i := 23) rfl)) (by decide) (backOf (W := 0) (own_rme2 l Z a0 hw [] (a1) T33.heap n0 Z33 ) hZ (own_g hw (i := 25) rfl) (own_g hw (i := 2) rfl) (by decide) (by decide)) q44a q44c (g := (mkF m 153 #[.val (.long m1), .second, .val (.long l1), .second, .val (.long pp), .second, .val (.long qq), .second, iv sl, iv mo, .val (.long m2), .second, .val (.long l2), .second, rv a1, rv a2, iv xp, rv a1, rv a2, rv lg, .val (.int 1), .unset, .unset, .unset, .unset] [.null, (.ref a1)])) rfl (by rw [hml]; rfl) (Steps.refl _) (argsL := [.null]) (rest := []) (lenOf own_pd__Ljava_lang_Object__Z rfl) rfl (by show 2 * 0 + _ ≤ _; exact Nat.le_of_eq rfl) (hb hby at_153) (fun _ _ => ⟨rfl, e43, (by decide : 3 + 0 ≤ _), (by decide : 5 + 0 ≤ _)⟩)
  dsimp only [Pt.U, Pt.locs, Pt.cells, Pt.slots] at X44 l44 y44 z44 st44 hQ44
  subst l44 y44 z44
  obtain ⟨rfl, N44q, e44⟩ := hQ44
  have N44 := Fr.app N43 N44q
  refine own_S (mkF m 156 #[.val (.long m1), .second, .val (.long l1), .second, .val (.long pp), .second, .val (.long qq), .second, iv sl, iv mo, .val (.long m2), .second, .val (.long l2), .second, rv a1, rv a2, iv xp, rv a1, rv a2, rv lg, .val (.int 1), .unset, .unset, .unset, .unset] [(.int 0)]) (fun _ k => st44.trans k) ?_
  have hc45 : (0 : Int32) = (0 : Int32) := by decide
  refine own_S (mkF m 159 #[.val (.long m1), .second, .val (.long l1), .second, .val (.long pp), .second, .val (.long qq), .second, iv sl, iv mo, .val (.long m2), .second, .val (.long l2), .second, rv a1, rv a2, iv xp, rv a1, rv a2, rv lg, .val (.int 1), .unset, .unset, .unset, .unset] []) (fun _ k => XS.ifNo X44.here hx rfl (hb hby at_156) rfl ((if0 _ _).trans (teq hc45).2) k) ?_
  refine own_S (mkF m 160 #[.val (.long m1), .second, .val (.long l1), .second, .val (.long pp), .second, .val (.long qq), .second, iv sl, iv mo, .val (.long m2), .second, .val (.long l2), .second, rv a1, rv a2, iv xp, rv a1, rv a2, rv lg, .val (.int 1), .unset, .unset, .unset, .unset] [(.int 1)]) (fun _ k => XS.iconst X44.here hx rfl (hb hby at_159) k) ?_
  refine own_S (mkF m 164 #[.val (.long m1), .second, .val (.long l1), .second, .val (.long pp), .second, .val (.long qq), .second, iv sl, iv mo, .val (.long m2), .second, .val (.long l2), .second, rv a1, rv a2, iv xp, rv a1, rv a2, rv lg, .val (.int 1), .unset, .unset, .unset, .unset] [(.int 1)]) (fun _ k => XS.goto X44.here hx rfl (pc0 := 160) (pc' := 164) rfl (hb hby at_160) (by decide) (by decide) k) ?_
  refine own_S (mkF m 166 #[.val (.long m1), .second, .val (.long l1), .second, .val (.long pp), .second, .val (.long qq), .second, iv sl, iv mo, .val (.long m2), .second, .val (.long l2), .second, rv a1, rv a2, iv xp, rv a1, rv a2, rv lg, .val (.int 1), .val (.int 1), .unset, .unset, .unset] []) (fun _ k => XS.istore X44.here hx rfl (hb hby at_164) rfl (l' := #[.val (.long m1), .second, .val (.long l1), .second, .val (.long pp), .second, .val (.long qq), .second, iv sl, iv mo, .val (.long m2), .second, .val (.long l2), .second, rv a1, rv a2, iv xp, rv a1, rv a2, rv lg, .val (.int 1), .val (.int 1), .unset, .unset, .unset]) rfl k) ?_
  refine own_S (mkF m 168 #[.val (.long m1), .second, .val (.long l1), .second, .val (.long pp), .second, .val (.long qq), .second, iv sl, iv mo, .val (.long m2), .second, .val (.long l2), .second, rv a1, rv a2, iv xp, rv a1, rv a2, rv lg, .val (.int 1), .val (.int 1), .unset, .unset, .unset] [(.ref a1)]) (fun _ k => XS.aload X44.here hx rfl (hb hby at_166) rfl rfl k) ?_
  refine own_S (mkF m 170 #[.val (.long m1), .second, .val (.long l1), .second, .val (.long pp), .second, .val (.long qq), .second, iv sl, iv mo, .val (.long m2), .second, .val (.long l2), .second, rv a1, rv a2, iv xp, rv a1, rv a2, rv lg, .val (.int 1), .val (.int 1), .unset, .unset, .unset] [(.ref lg), (.ref a1)]) (fun _ k => XS.aload X44.here hx rfl (hb hby at_168) rfl rfl k) ?_
  obtain ⟨cq46, kq46, q46a, q46b, q46c⟩ := isOf hZ e44 F37
  obtain ⟨_, _, ⟨T46, L46, k46, n46⟩, -, X46, ⟨Lc46, hQ46, l46, y46, z46⟩, st46⟩ := X44.virtualBack hx (y := own_y4) (z := own_y4) hown (mvT hZ (own_g hw (i := 21) rfl)) (mvT hZ (own_g hw (i := 22) rfl)) (notFace_of_selects (args := #[]) (mvT hZ (own_g hw (i := 24) rfl))) (mvT hZ (own_g hw (i := 24) rfl)) (mvT hZ (own_g hw (i := 23) rfl)) (by decide) (backOf (W := 0) (own_rme3 l Z a0 hw [] (a1) (lg) T33.heap n0 Z33 F37 F34) hZ (own_g hw (i := 25) rfl) (own_g hw (i := 2) rfl) (by decide) (by decide)) q46a q46c (g := (mkF m 170 #[.val (.long m1), .second, .val (.long l1), .second, .val (.long pp), .second, .val (.long qq), .second, iv sl, iv mo, .val (.long m2), .second, .val (.long l2), .second, rv a1, rv a2, iv xp, rv a1, rv a2, rv lg, .val (.int 1), .val (.int 1), .unset, .unset, .unset] [(.ref lg), (.ref a1)])) rfl (by rw [hml]; rfl) (Steps.refl _) (argsL := [(.ref lg)]) (rest := []) (lenOf own_pd__Ljava_lang_Object__Z rfl) rfl (by show 2 * 0 + _ ≤ _; exact Nat.le_of_eq rfl) (hb hby at_170) (fun _ _ => ⟨rfl, e44, (by decide : 3 + 0 ≤ _), (by decide : 5 + 0 ≤ _)⟩)
  dsimp only [Pt.U, Pt.locs, Pt.cells, Pt.slots] at X46 l46 y46 z46 st46 hQ46
  subst l46 y46 z46
  obtain ⟨rfl, N46q, e46⟩ := hQ46
  have N46 := Fr.app N44 N46q
  refine own_S (mkF m 173 #[.val (.long m1), .second, .val (.long l1), .second, .val (.long pp), .second, .val (.long qq), .second, iv sl, iv mo, .val (.long m2), .second, .val (.long l2), .second, rv a1, rv a2, iv xp, rv a1, rv a2, rv lg, .val (.int 1), .val (.int 1), .unset, .unset, .unset] [(.int 0)]) (fun _ k => st46.trans k) ?_
  have hc47 : (0 : Int32) = (0 : Int32) := by decide
  refine own_S (mkF m 176 #[.val (.long m1), .second, .val (.long l1), .second, .val (.long pp), .second, .val (.long qq), .second, iv sl, iv mo, .val (.long m2), .second, .val (.long l2), .second, rv a1, rv a2, iv xp, rv a1, rv a2, rv lg, .val (.int 1), .val (.int 1), .unset, .unset, .unset] []) (fun _ k => XS.ifNo X46.here hx rfl (hb hby at_173) rfl ((if0 _ _).trans (teq hc47).2) k) ?_
  refine own_S (mkF m 177 #[.val (.long m1), .second, .val (.long l1), .second, .val (.long pp), .second, .val (.long qq), .second, iv sl, iv mo, .val (.long m2), .second, .val (.long l2), .second, rv a1, rv a2, iv xp, rv a1, rv a2, rv lg, .val (.int 1), .val (.int 1), .unset, .unset, .unset] [(.int 1)]) (fun _ k => XS.iconst X46.here hx rfl (hb hby at_176) k) ?_
  refine own_S (mkF m 181 #[.val (.long m1), .second, .val (.long l1), .second, .val (.long pp), .second, .val (.long qq), .second, iv sl, iv mo, .val (.long m2), .second, .val (.long l2), .second, rv a1, rv a2, iv xp, rv a1, rv a2, rv lg, .val (.int 1), .val (.int 1), .unset, .unset, .unset] [(.int 1)]) (fun _ k => XS.goto X46.here hx rfl (pc0 := 177) (pc' := 181) rfl (hb hby at_177) (by decide) (by decide) k) ?_
  refine own_S (mkF m 183 #[.val (.long m1), .second, .val (.long l1), .second, .val (.long pp), .second, .val (.long qq), .second, iv sl, iv mo, .val (.long m2), .second, .val (.long l2), .second, rv a1, rv a2, iv xp, rv a1, rv a2, rv lg, .val (.int 1), .val (.int 1), .val (.int 1), .unset, .unset] []) (fun _ k => XS.istore X46.here hx rfl (hb hby at_181) rfl (l' := #[.val (.long m1), .second, .val (.long l1), .second, .val (.long pp), .second, .val (.long qq), .second, iv sl, iv mo, .val (.long m2), .second, .val (.long l2), .second, rv a1, rv a2, iv xp, rv a1, rv a2, rv lg, .val (.int 1), .val (.int 1), .val (.int 1), .unset, .unset]) rfl k) ?_
  refine own_S (mkF m 185 #[.val (.long m1), .second, .val (.long l1), .second, .val (.long pp), .second, .val (.long qq), .second, iv sl, iv mo, .val (.long m2), .second, .val (.long l2), .second, rv a1, rv a2, iv xp, rv a1, rv a2, rv lg, .val (.int 1), .val (.int 1), .val (.int 1), .unset, .unset] [(.ref a1)]) (fun _ k => XS.aload X46.here hx rfl (hb hby at_183) rfl rfl k) ?_
  refine own_S (mkF m 187 #[.val (.long m1), .second, .val (.long l1), .second, .val (.long pp), .second, .val (.long qq), .second, iv sl, iv mo, .val (.long m2), .second, .val (.long l2), .second, rv a1, rv a2, iv xp, rv a1, rv a2, rv lg, .val (.int 1), .val (.int 1), .val (.int 1), .unset, .unset] [(.ref a2), (.ref a1)]) (fun _ k => XS.aload X46.here hx rfl (hb hby at_185) rfl rfl k) ?_
  obtain ⟨cq48, kq48, q48a, q48b, q48c⟩ := isOf hZ e46 F37
  obtain ⟨_, _, ⟨T48, L48, k48, n48⟩, -, X48, ⟨Lc48, hQ48, l48, y48, z48⟩, st48⟩ := X46.virtualBack hx (y := own_y4) (z := own_y4) hown (mvT hZ (own_g hw (i := 21) rfl)) (mvT hZ (own_g hw (i := 22) rfl)) (notFace_of_selects (args := #[]) (mvT hZ (own_g hw (i := 24) rfl))) (mvT hZ (own_g hw (i := 24) rfl)) (mvT hZ (own_g hw (i := 23) rfl)) (by decide) (backOf (W := 0) (own_rme4 l Z a0 hw [] (a1) (a2) (m1) (l1) (m2) (l2) T33.heap n0 Z33 F37 F38 F39 F40 F41 F42 n16) hZ (own_g hw (i := 25) rfl) (own_g hw (i := 2) rfl) (by decide) (by decide)) q48a q48c (g := (mkF m 187 #[.val (.long m1), .second, .val (.long l1), .second, .val (.long pp), .second, .val (.long qq), .second, iv sl, iv mo, .val (.long m2), .second, .val (.long l2), .second, rv a1, rv a2, iv xp, rv a1, rv a2, rv lg, .val (.int 1), .val (.int 1), .val (.int 1), .unset, .unset] [(.ref a2), (.ref a1)])) rfl (by rw [hml]; rfl) (Steps.refl _) (argsL := [(.ref a2)]) (rest := []) (lenOf own_pd__Ljava_lang_Object__Z rfl) rfl (by show 2 * 0 + _ ≤ _; exact Nat.le_of_eq rfl) (hb hby at_187) (fun _ _ => ⟨rfl, e46, (by decide : 3 + 0 ≤ _), (by decide : 5 + 0 ≤ _)⟩)
  dsimp only [Pt.U, Pt.locs, Pt.cells, Pt.slots] at X48 l48 y48 z48 st48 hQ48
  subst l48 y48 z48
  obtain ⟨rfl, N48q, e48⟩ := hQ48
  have N48 := Fr.app N46 N48q
  refine own_S (mkF m 190 #[.val (.long m1), .second, .val (.long l1), .second, .val (.long pp), .second, .val (.long qq), .second, iv sl, iv mo, .val (.long m2), .second, .val (.long l2), .second, rv a1, rv a2, iv xp, rv a1, rv a2, rv lg, .val (.int 1), .val (.int 1), .val (.int 1), .unset, .unset] [(.int (if m1 = m2 ∧ l1 = l2 then (1 : Int32) else (0 : Int32)))]) (fun _ k => st48.trans k) ?_
  refine own_S (mkF m 192 #[.val (.long m1), .second, .val (.long l1), .second, .val (.long pp), .second, .val (.long qq), .second, iv sl, iv mo, .val (.long m2), .second, .val (.long l2), .second, rv a1, rv a2, iv xp, rv a1, rv a2, rv lg, .val (.int 1), .val (.int 1), .val (.int 1), iv (if m1 = m2 ∧ l1 = l2 then (1 : Int32) else (0 : Int32)), .unset] []) (fun _ k => XS.istore X48.here hx rfl (hb hby at_190) rfl (l' := #[.val (.long m1), .second, .val (.long l1), .second, .val (.long pp), .second, .val (.long qq), .second, iv sl, iv mo, .val (.long m2), .second, .val (.long l2), .second, rv a1, rv a2, iv xp, rv a1, rv a2, rv lg, .val (.int 1), .val (.int 1), .val (.int 1), iv (if m1 = m2 ∧ l1 = l2 then (1 : Int32) else (0 : Int32)), .unset]) rfl k) ?_
  refine own_S (mkF m 194 #[.val (.long m1), .second, .val (.long l1), .second, .val (.long pp), .second, .val (.long qq), .second, iv sl, iv mo, .val (.long m2), .second, .val (.long l2), .second, rv a1, rv a2, iv xp, rv a1, rv a2, rv lg, .val (.int 1), .val (.int 1), .val (.int 1), iv (if m1 = m2 ∧ l1 = l2 then (1 : Int32) else (0 : Int32)), .unset] [(.ref a2)]) (fun _ k => XS.aload X48.here hx rfl (hb hby at_192) rfl rfl k) ?_
  refine own_S (mkF m 196 #[.val (.long m1), .second, .val (.long l1), .second, .val (.long pp), .second, .val (.long qq), .second, iv sl, iv mo, .val (.long m2), .second, .val (.long l2), .second, rv a1, rv a2, iv xp, rv a1, rv a2, rv lg, .val (.int 1), .val (.int 1), .val (.int 1), iv (if m1 = m2 ∧ l1 = l2 then (1 : Int32) else (0 : Int32)), .unset] [(.ref a1), (.ref a2)]) (fun _ k => XS.aload X48.here hx rfl (hb hby at_194) rfl rfl k) ?_
  obtain ⟨cq49, kq49, q49a, q49b, q49c⟩ := isOf hZ e48 F40
  obtain ⟨_, _, ⟨T49, L49, k49, n49⟩, -, X49, ⟨Lc49, hQ49, l49, y49, z49⟩, st49⟩ := X48.virtualBack hx (y := own_y4) (z := own_y4) hown (mvT hZ (own_g hw (i := 21) rfl)) (mvT hZ (own_g hw (i := 22) rfl)) (notFace_of_selects (args := #[]) (mvT hZ (own_g hw (i := 24) rfl))) (mvT hZ (own_g hw (i := 24) rfl)) (mvT hZ (own_g hw (i := 23) rfl)) (by decide) (backOf (W := 0) (own_rme4 l Z a0 hw [] (a2) (a1) (m2) (l2) (m1) (l1) T33.heap n0 Z33 F40 F41 F42 F37 F38 F39 (Ne.symm n16)) hZ (own_g hw (i := 25) rfl) (own_g hw (i := 2) rfl) (by decide) (by decide)) q49a q49c (g := (mkF m 196 #[.val (.long m1), .second, .val (.long l1), .second, .val (.long pp), .second, .val (.long qq), .second, iv sl, iv mo, .val (.long m2), .second, .val (.long l2), .second, rv a1, rv a2, iv xp, rv a1, rv a2, rv lg, .val (.int 1), .val (.int 1), .val (.int 1), iv (if m1 = m2 ∧ l1 = l2 then (1 : Int32) else (0 : Int32)), .unset] [(.ref a1), (.ref a2)])) rfl (by rw [hml]; rfl) (Steps.refl _) (argsL := [(.ref a1)]) (rest := []) (lenOf own_pd__Ljava_lang_Object__Z rfl) rfl (by show 2 * 0 + _ ≤ _; exact Nat.le_of_eq rfl) (hb hby at_196) (fun _ _ => ⟨rfl, e48, (by decide : 3 + 0 ≤ _), (by decide : 5 + 0 ≤ _)⟩)
  dsimp only [Pt.U, Pt.locs, Pt.cells, Pt.slots] at X49 l49 y49 z49 st49 hQ49
  subst l49 y49 z49
  obtain ⟨rfl, N49q, e49⟩ := hQ49
  have N49 := Fr.app N48 N49q
  refine own_S (mkF m 199 #[.val (.long m1), .second, .val (.long l1), .second, .val (.long pp), .second, .val (.long qq), .second, iv sl, iv mo, .val (.long m2), .second, .val (.long l2), .second, rv a1, rv a2, iv xp, rv a1, rv a2, rv lg, .val (.int 1), .val (.int 1), .val (.int 1), iv (if m1 = m2 ∧ l1 = l2 then (1 : Int32) else (0 : Int32)), .unset] [(.int (if m2 = m1 ∧ l2 = l1 then (1 : Int32) else (0 : Int32)))]) (fun _ k => st49.trans k) ?_
  refine own_S (mkF m 201 #[.val (.long m1), .second, .val (.long l1), .second, .val (.long pp), .second, .val (.long qq), .second, iv sl, iv mo, .val (.long m2), .second, .val (.long l2), .second, rv a1, rv a2, iv xp, rv a1, rv a2, rv lg, .val (.int 1), .val (.int 1), .val (.int 1), iv (if m1 = m2 ∧ l1 = l2 then (1 : Int32) else (0 : Int32)), iv (if m2 = m1 ∧ l2 = l1 then (1 : Int32) else (0 : Int32))] []) (fun _ k => XS.istore X49.here hx rfl (hb hby at_199) rfl (l' := #[.val (.long m1), .second, .val (.long l1), .second, .val (.long pp), .second, .val (.long qq), .second, iv sl, iv mo, .val (.long m2), .second, .val (.long l2), .second, rv a1, rv a2, iv xp, rv a1, rv a2, rv lg, .val (.int 1), .val (.int 1), .val (.int 1), iv (if m1 = m2 ∧ l1 = l2 then (1 : Int32) else (0 : Int32)), iv (if m2 = m1 ∧ l2 = l1 then (1 : Int32) else (0 : Int32))]) rfl k) ?_
  refine own_S (mkF m 203 #[.val (.long m1), .second, .val (.long l1), .second, .val (.long pp), .second, .val (.long qq), .second, iv sl, iv mo, .val (.long m2), .second, .val (.long l2), .second, rv a1, rv a2, iv xp, rv a1, rv a2, rv lg, .val (.int 1), .val (.int 1), .val (.int 1), iv (if m1 = m2 ∧ l1 = l2 then (1 : Int32) else (0 : Int32)), iv (if m2 = m1 ∧ l2 = l1 then (1 : Int32) else (0 : Int32))] [(.int 1)]) (fun _ k => XS.iload X49.here hx rfl (hb hby at_201) rfl k) ?_
  have hc50 : ¬ ((1 : Int32) = (0 : Int32)) := by decide
  refine own_S (mkF m 206 #[.val (.long m1), .second, .val (.long l1), .second, .val (.long pp), .second, .val (.long qq), .second, iv sl, iv mo, .val (.long m2), .second, .val (.long l2), .second, rv a1, rv a2, iv xp, rv a1, rv a2, rv lg, .val (.int 1), .val (.int 1), .val (.int 1), iv (if m1 = m2 ∧ l1 = l2 then (1 : Int32) else (0 : Int32)), iv (if m2 = m1 ∧ l2 = l1 then (1 : Int32) else (0 : Int32))] []) (fun _ k => XS.ifNo X49.here hx rfl (hb hby at_203) rfl ((if0 _ _).trans (feq hc50).1) k) ?_
  refine own_S (mkF m 208 #[.val (.long m1), .second, .val (.long l1), .second, .val (.long pp), .second, .val (.long qq), .second, iv sl, iv mo, .val (.long m2), .second, .val (.long l2), .second, rv a1, rv a2, iv xp, rv a1, rv a2, rv lg, .val (.int 1), .val (.int 1), .val (.int 1), iv (if m1 = m2 ∧ l1 = l2 then (1 : Int32) else (0 : Int32)), iv (if m2 = m1 ∧ l2 = l1 then (1 : Int32) else (0 : Int32))] [(.int 1)]) (fun _ k => XS.iload X49.here hx rfl (hb hby at_206) rfl k) ?_
  have hc51 : ¬ ((1 : Int32) = (0 : Int32)) := by decide
  refine own_S (mkF m 211 #[.val (.long m1), .second, .val (.long l1), .second, .val (.long pp), .second, .val (.long qq), .second, iv sl, iv mo, .val (.long m2), .second, .val (.long l2), .second, rv a1, rv a2, iv xp, rv a1, rv a2, rv lg, .val (.int 1), .val (.int 1), .val (.int 1), iv (if m1 = m2 ∧ l1 = l2 then (1 : Int32) else (0 : Int32)), iv (if m2 = m1 ∧ l2 = l1 then (1 : Int32) else (0 : Int32))] []) (fun _ k => XS.ifNo X49.here hx rfl (hb hby at_208) rfl ((if0 _ _).trans (feq hc51).1) k) ?_
  refine own_S (mkF m 213 #[.val (.long m1), .second, .val (.long l1), .second, .val (.long pp), .second, .val (.long qq), .second, iv sl, iv mo, .val (.long m2), .second, .val (.long l2), .second, rv a1, rv a2, iv xp, rv a1, rv a2, rv lg, .val (.int 1), .val (.int 1), .val (.int 1), iv (if m1 = m2 ∧ l1 = l2 then (1 : Int32) else (0 : Int32)), iv (if m2 = m1 ∧ l2 = l1 then (1 : Int32) else (0 : Int32))] [(.int 1)]) (fun _ k => XS.iload X49.here hx rfl (hb hby at_211) rfl k) ?_
  have hc52 : ¬ ((1 : Int32) = (0 : Int32)) := by decide
  refine own_S (mkF m 216 #[.val (.long m1), .second, .val (.long l1), .second, .val (.long pp), .second, .val (.long qq), .second, iv sl, iv mo, .val (.long m2), .second, .val (.long l2), .second, rv a1, rv a2, iv xp, rv a1, rv a2, rv lg, .val (.int 1), .val (.int 1), .val (.int 1), iv (if m1 = m2 ∧ l1 = l2 then (1 : Int32) else (0 : Int32)), iv (if m2 = m1 ∧ l2 = l1 then (1 : Int32) else (0 : Int32))] []) (fun _ k => XS.ifNo X49.here hx rfl (hb hby at_213) rfl ((if0 _ _).trans (feq hc52).1) k) ?_
  refine own_S (mkF m 218 #[.val (.long m1), .second, .val (.long l1), .second, .val (.long pp), .second, .val (.long qq), .second, iv sl, iv mo, .val (.long m2), .second, .val (.long l2), .second, rv a1, rv a2, iv xp, rv a1, rv a2, rv lg, .val (.int 1), .val (.int 1), .val (.int 1), iv (if m1 = m2 ∧ l1 = l2 then (1 : Int32) else (0 : Int32)), iv (if m2 = m1 ∧ l2 = l1 then (1 : Int32) else (0 : Int32))] [(.int (if m1 = m2 ∧ l1 = l2 then (1 : Int32) else (0 : Int32)))]) (fun _ k => XS.iload X49.here hx rfl (hb hby at_216) rfl k) ?_
  refine own_S (mkF m 220 #[.val (.long m1), .second, .val (.long l1), .second, .val (.long pp), .second, .val (.long qq), .second, iv sl, iv mo, .val (.long m2), .second, .val (.long l2), .second, rv a1, rv a2, iv xp, rv a1, rv a2, rv lg, .val (.int 1), .val (.int 1), .val (.int 1), iv (if m1 = m2 ∧ l1 = l2 then (1 : Int32) else (0 : Int32)), iv (if m2 = m1 ∧ l2 = l1 then (1 : Int32) else (0 : Int32))] [(.int xp), (.int (if m1 = m2 ∧ l1 = l2 then (1 : Int32) else (0 : Int32)))]) (fun _ k => XS.iload X49.here hx rfl (hb hby at_218) rfl k) ?_
  have hc53 : (if m1 = m2 ∧ l1 = l2 then (1 : Int32) else (0 : Int32)) = xp := (by rw [h_xp]; exact own_law m1 l1 m2 l2)
  refine own_S (mkF m 223 #[.val (.long m1), .second, .val (.long l1), .second, .val (.long pp), .second, .val (.long qq), .second, iv sl, iv mo, .val (.long m2), .second, .val (.long l2), .second, rv a1, rv a2, iv xp, rv a1, rv a2, rv lg, .val (.int 1), .val (.int 1), .val (.int 1), iv (if m1 = m2 ∧ l1 = l2 then (1 : Int32) else (0 : Int32)), iv (if m2 = m1 ∧ l2 = l1 then (1 : Int32) else (0 : Int32))] []) (fun _ k => XS.icmpNo X49.here hx rfl (hb hby at_220) rfl (teq hc53).2 k) ?_
  refine own_S (mkF m 225 #[.val (.long m1), .second, .val (.long l1), .second, .val (.long pp), .second, .val (.long qq), .second, iv sl, iv mo, .val (.long m2), .second, .val (.long l2), .second, rv a1, rv a2, iv xp, rv a1, rv a2, rv lg, .val (.int 1), .val (.int 1), .val (.int 1), iv (if m1 = m2 ∧ l1 = l2 then (1 : Int32) else (0 : Int32)), iv (if m2 = m1 ∧ l2 = l1 then (1 : Int32) else (0 : Int32))] [(.int (if m2 = m1 ∧ l2 = l1 then (1 : Int32) else (0 : Int32)))]) (fun _ k => XS.iload X49.here hx rfl (hb hby at_223) rfl k) ?_
  refine own_S (mkF m 227 #[.val (.long m1), .second, .val (.long l1), .second, .val (.long pp), .second, .val (.long qq), .second, iv sl, iv mo, .val (.long m2), .second, .val (.long l2), .second, rv a1, rv a2, iv xp, rv a1, rv a2, rv lg, .val (.int 1), .val (.int 1), .val (.int 1), iv (if m1 = m2 ∧ l1 = l2 then (1 : Int32) else (0 : Int32)), iv (if m2 = m1 ∧ l2 = l1 then (1 : Int32) else (0 : Int32))] [(.int xp), (.int (if m2 = m1 ∧ l2 = l1 then (1 : Int32) else (0 : Int32)))]) (fun _ k => XS.iload X49.here hx rfl (hb hby at_225) rfl k) ?_
  have hc54 : (if m2 = m1 ∧ l2 = l1 then (1 : Int32) else (0 : Int32)) = xp := (by rw [h_xp, ← own_law m1 l1 m2 l2]; simp only [eq_comm])
  refine own_S (mkF m 230 #[.val (.long m1), .second, .val (.long l1), .second, .val (.long pp), .second, .val (.long qq), .second, iv sl, iv mo, .val (.long m2), .second, .val (.long l2), .second, rv a1, rv a2, iv xp, rv a1, rv a2, rv lg, .val (.int 1), .val (.int 1), .val (.int 1), iv (if m1 = m2 ∧ l1 = l2 then (1 : Int32) else (0 : Int32)), iv (if m2 = m1 ∧ l2 = l1 then (1 : Int32) else (0 : Int32))] []) (fun _ k => XS.icmpNo X49.here hx rfl (hb hby at_227) rfl (teq hc54).2 k) ?_
  refine own_S (mkF m 231 #[.val (.long m1), .second, .val (.long l1), .second, .val (.long pp), .second, .val (.long qq), .second, iv sl, iv mo, .val (.long m2), .second, .val (.long l2), .second, rv a1, rv a2, iv xp, rv a1, rv a2, rv lg, .val (.int 1), .val (.int 1), .val (.int 1), iv (if m1 = m2 ∧ l1 = l2 then (1 : Int32) else (0 : Int32)), iv (if m2 = m1 ∧ l2 = l1 then (1 : Int32) else (0 : Int32))] [(.int 1)]) (fun _ k => XS.iconst X49.here hx rfl (hb hby at_230) k) ?_
  refine own_S (mkF m 235 #[.val (.long m1), .second, .val (.long l1), .second, .val (.long pp), .second, .val (.long qq), .second, iv sl, iv mo, .val (.long m2), .second, .val (.long l2), .second, rv a1, rv a2, iv xp, rv a1, rv a2, rv lg, .val (.int 1), .val (.int 1), .val (.int 1), iv (if m1 = m2 ∧ l1 = l2 then (1 : Int32) else (0 : Int32)), iv (if m2 = m1 ∧ l2 = l1 then (1 : Int32) else (0 : Int32))] [(.int 1)]) (fun _ k => XS.goto X49.here hx rfl (pc0 := 231) (pc' := 235) rfl (hb hby at_231) (by decide) (by decide) k) ?_
  exact own_retN X49 hx hlk (t := .boolean) hret (by simp) (hb hby at_235) (by rw [e49]; exact ⟨rfl, N49, trivial⟩) (by decide) (by decide)
set_option maxRecDepth 65536 in
set_option maxHeartbeats 40000000 in
theorem comes_1 {Post : Tables → Env → Array Value → State → Outcome → State → Prop} (hpost : ∀ tb e args s v u, (limb_1_1.after args s (.returned v) u = true ∧ limb_1_2.after args s (.returned v) u = true ∧ True) → FrameEnd s (.returned v) u (Jvm.fieldLocs frame_1_writes args s ++ Jvm.arrayLocs frame_1_arrays args s ++ Jvm.staticLocs frame_1_statics s) 16 128 → Post tb e args s (.returned v) u) :
    ArmFor flags0 classFile x code maxLocals ret World_1 tables_1 room_1 Calls_1 rest_1 Pre_1 Post := by
  intro l hfl _ _ p e ha hc hk s m args below hf hA hF happ hP
  obtain ⟨hcalls, hrest, hpre⟩ := hP
  obtain ⟨-, -, -, hnamed, -, -, -, hat⟩ := (Spec.applies_iff hf).mp happ
  obtain ⟨hg, hn⟩ := and_e (Cond.before_iff.mp (show (Jvm.Cond.and given_1 narrow_1).before args s = true from hpre))
  obtain ⟨h1, g0⟩ := and_e hg
  obtain ⟨k0, g1⟩ := and_e g0
  obtain ⟨k1, g2⟩ := and_e g1
  obtain ⟨k2, g3⟩ := and_e g2
  obtain ⟨k3, g4⟩ := and_e g3
  have k4 := g4
  obtain ⟨w0, w1, w2, w3, w4, rfl⟩ : ∃ w0 w1 w2 w3 w4 : Value, args = #[w0, w1, w2, w3, w4] := by
    have hs : args.size = 5 := by simpa [Cond.value, given_1] using h1
    obtain ⟨L⟩ := args
    match L, hs with
    | [w0, w1, w2, w3, w4], _ => exact ⟨w0, w1, w2, w3, w4, rfl⟩
  have hw := fun d (hd : d ∈ tables_1) => atoms_spec (ws := Jvm.Cond.code x code maxLocals ret :: tables_1) hat d (List.mem_cons_of_mem _ hd)
  obtain ⟨hsets, hown0⟩ := atoms_of _ (rest_1_c_eq ▸ (show rest_1_c.before _ s = true from hrest))
  have hfit : Fit s := fun {y c} hc i hi => by
    obtain ⟨ha, rfl⟩ := Array.getElem?_eq_some_iff.mp hc
    have q := List.all_eq_true.mp ((Array.all_eq_true_iff_forall_mem.mp hF) _ (Array.getElem_mem ha)) i (List.mem_range.mpr hi)
    simpa [Array.getElem?_eq_getElem hi] using q
  obtain ⟨i0, q0⟩ := isL_v k0
  obtain rfl : w0 = (.long i0) := Option.some.inj q0
  obtain ⟨i1, q1⟩ := isL_v k1
  obtain rfl : w1 = (.long i1) := Option.some.inj q1
  obtain ⟨i2, q2⟩ := isL_v k2
  obtain rfl : w2 = (.long i2) := Option.some.inj q2
  obtain ⟨i3, q3⟩ := isL_v k3
  obtain rfl : w3 = (.long i3) := Option.some.inj q3
  obtain ⟨i4, q4⟩ := is_v k4
  obtain rfl : w4 = (.int i4) := Option.some.inj q4
  have x2 := Cond.before_iff.mp (hsets _ (List.mem_of_getElem? (i := 2) rfl))
  have x4 := Cond.before_iff.mp (hsets _ (List.mem_of_getElem? (i := 4) rfl))
  have x5 := Cond.before_iff.mp (hsets _ (List.mem_of_getElem? (i := 5) rfl))
  obtain ⟨ca, evC⟩ := arr_v x2
  have SC := Sta.start evC (Or.inl (hsets _ (List.mem_of_getElem? (i := 1) rfl)))
  have hC := own_cache0 evC x2 x4 x5
  obtain ⟨n, o, h1, h2, h3, _, L, rfl, ⟨rfl, N, -⟩, hq⟩ := own_rmlaw l s _ hw tables_1 i0 i1 i2 i3 i4 ca s.heap s.heap.size (Nat.le_refl _) (Old.start s) SC hC p e ha hc hk s m _ below hf ((Spec.applies_iff_loose hf).mp happ).1 ⟨rfl, State.Warmed39.refl s, rfl⟩ trivial
  refine ⟨n, _, h1, h2, h3, hpost _ _ _ _ _ _ ⟨Cond.after_iff.mpr rfl, Cond.after_iff.mpr (eq_i res_at (Term.int_eval (1)) rfl), trivial⟩ ⟨hq.1, hq.2.1, (hq.2.2.sift fun y hy => Or.inr (N y hy)).mono (by decide) (by decide)⟩⟩
theorem main_1_1 : Claimed_1_1 := comes_1 fun _ _ _ _ _ _ h hF => ⟨h.1, hF⟩
theorem main_1_2 : Claimed_1_2 := comes_1 fun _ _ _ _ _ _ h hF => ⟨h.2.1, hF⟩
end Jvm.Pilot.@@N@@
namespace Jvm.Pilot.@@N@@
open Jvm Jvm.ClassFile Sem Op Lib Jvm.Free Jvm.Stand Jvm.Pilot.@@N@@.Jvm.D
/-! MADE BY PROGRAM (witnessworld.py) out of the Statement's table words and the real class files: 16 classes; the members and pool entries that the words name. The judged class is class 1, her method 1. -/
namespace start1
open Jvm.ClassFile
def u (s : String) : CpInfo := .utf8 (stringToUtf16 s)
/-- a pool by its gaps: so many unusable entries, then the entry; so many at the end -/
def gap : Nat → List CpInfo → List CpInfo
  | 0, r => r
  | n + 1, r => .unusable :: gap n r
def poolList (es : List (Nat × CpInfo)) (last : Nat) : List CpInfo := es.foldr (fun e r => gap e.1 (e.2 :: r)) (gap last [])
def pool (es : List (Nat × CpInfo)) (last : Nat) : Array CpInfo := ⟨poolList es last⟩
def fileOf (pool : Array CpInfo) (this : Nat) (attrs : Array Attribute := #[]) (ms : Array MethodInfo := #[]) (fl : Nat := 33) (sup : Nat := 0) (ifs : Array Nat := #[]) (fds : Array FieldInfo := #[]) : ClassFile where
  minorVersion := 0
  majorVersion := 65
  constantPool := pool
  accessFlags := fl
  thisClass := this
  superClass := sup
  interfaces := ifs
  fields := fds
  methods := ms
  attributes := attrs
def plain (name : String) (sup : Option ClassId) : Class where
  name := name
  kind := .ordinary
  loader := none
  accessFlags := 33
  super := sup
  interfaces := #[]
  cf := none
  fields := #[]
  methods := #[]
  instanceTypes := #[]
  staticTypes := #[]
  resolved := #[]
  callSites := []
  init := .initialized
  statics := none
  mirror := none

def pool0 : Array CpInfo := pool [(5, u "<init>"), (0, u "()V"), (1, .class_ 10), (1, u "java/lang/Object")] 113

def k0c0 : Code := { maxStack := 0, maxLocals := 1, code := object_method_1_code, exceptionTable := #[], attributes := #[] }
def k0m0 : Method := { name := "<init>", desc := "()V", sig := { parameters := [], returnType := none }, accessFlags := 1, code := some k0c0 }
/-- java/lang/Object -/
def k0 : Class := { plain "java/lang/Object" none with
  accessFlags := 33
  interfaces := #[]
  cf := some (fileOf pool0 8 #[] #[{ accessFlags := 1, nameIndex := 5, descriptorIndex := 6, attributes := #[] }] 33 0 #[] #[])
  fields := #[]
  methods := #[k0m0]
  instanceTypes := #[]
  staticTypes := #[]
  resolved := Array.replicate 124 none
  statics := none }

def pool1 : Array CpInfo := pool [(2, .class_ 4), (1, u "java/lang/Object"), (0, u "<init>"), (0, u "()V"), (0, .class_ 8), (0, u "com/example/stickler/stickler/metadata/TopicId"), (0, .methodref 7 10), (0, .nameAndType 5 11), (0, u "(JJ)V"), (0, .methodref 13 14), (0, .class_ 15), (0, .nameAndType 16 17), (0, u "java/lang/Long"), (0, u "valueOf"), (0, u "(J)Ljava/lang/Long;"), (0, .methodref 7 19), (0, .nameAndType 20 21), (0, u "equals"), (0, u "(Ljava/lang/Object;)Z"), (0, .class_ 23), (0, u "com/example/stickler/stickler/metadata/TopicIdEqualsPinLaw"), (2, u "law"), (0, u "(JJJJI)Z")] 3

def k1m0 : Method := { name := "<init>", desc := "()V", sig := { parameters := [], returnType := none }, accessFlags := 1, code := none }
def k1c1 : Code := { maxStack := 6, maxLocals := 25, code := code, exceptionTable := #[], attributes := #[] }
def k1m1 : Method := { name := "law", desc := "(JJJJI)Z", sig := { parameters := [.long, .long, .long, .long, .int], returnType := some .boolean }, accessFlags := 9, code := some k1c1 }
/-- com/example/stickler/stickler/metadata/TopicIdEqualsPinLaw -/
def k1 : Class := { plain "com/example/stickler/stickler/metadata/TopicIdEqualsPinLaw" (some 0) with
  accessFlags := 49
  interfaces := #[]
  cf := some (fileOf pool1 22 #[] #[{ accessFlags := 1, nameIndex := 5, descriptorIndex := 6, attributes := #[] }, { accessFlags := 9, nameIndex := 26, descriptorIndex := 27, attributes := #[] }] 49 2 #[] #[])
  fields := #[]
  methods := #[k1m0, k1m1]
  instanceTypes := #[]
  staticTypes := #[]
  resolved := Array.replicate 31 none
  statics := none }

def pool2 : Array CpInfo := pool [(1, .class_ 2), (0, u "java/lang/Comparable"), (0, .class_ 4), (0, u "java/lang/Object")] 7

/-- java/lang/Comparable -/
def k2 : Class := { plain "java/lang/Comparable" (some 0) with
  accessFlags := 1537
  interfaces := #[]
  cf := some (fileOf pool2 1 #[] #[] 1537 3 #[] #[])
  fields := #[]
  methods := #[]
  instanceTypes := #[]
  staticTypes := #[]
  resolved := Array.replicate 12 none
  statics := none }

def pool3 : Array CpInfo := pool [(1, .methodref 2 3), (0, .class_ 4), (0, .nameAndType 5 6), (0, u "java/lang/Object"), (0, u "<init>"), (0, u "()V"), (7, .fieldref 15 16), (0, .class_ 17), (0, .nameAndType 18 19), (0, u "com/example/stickler/stickler/metadata/TopicId"), (0, u "mostSignificantBits"), (0, u "J"), (0, .fieldref 15 21), (0, .nameAndType 22 19), (0, u "leastSignificantBits"), (20, u "TEXT_DECODER"), (0, u "Ljava/util/Base64$Decoder;"), (12, u "TEXT_ENCODER"), (0, u "Ljava/util/Base64$Encoder;"), (8, u "equals"), (0, u "(Ljava/lang/Object;)Z"), (13, u "(JJ)V"), (65, .class_ 149), (0, u "java/lang/Comparable"), (0, u "TEXT_LENGTH"), (0, u "I"), (2, u "BYTE_LENGTH")] 39

def k3c0 : Code := { maxStack := 4, maxLocals := 5, code := prog_28_method_1_code, exceptionTable := #[], attributes := #[] }
def k3m0 : Method := { name := "<init>", desc := "(JJ)V", sig := { parameters := [.long, .long], returnType := none }, accessFlags := 1, code := some k3c0 }
def k3c1 : Code := { maxStack := 4, maxLocals := 3, code := prog_28_method_6_code, exceptionTable := #[], attributes := #[] }
def k3m1 : Method := { name := "equals", desc := "(Ljava/lang/Object;)Z", sig := { parameters := [(.object "java/lang/Object")], returnType := some .boolean }, accessFlags := 1, code := some k3c1 }
/-- com/example/stickler/stickler/metadata/TopicId -/
def k3 : Class := { plain "com/example/stickler/stickler/metadata/TopicId" (some 0) with
  accessFlags := 33
  interfaces := #[2]
  cf := some (fileOf pool3 15 #[] #[{ accessFlags := 1, nameIndex := 5, descriptorIndex := 82, attributes := #[] }, { accessFlags := 1, nameIndex := 67, descriptorIndex := 68, attributes := #[] }] 33 2 #[148] #[{ accessFlags := 26, nameIndex := 150, descriptorIndex := 151, attributes := #[] }, { accessFlags := 26, nameIndex := 154, descriptorIndex := 151, attributes := #[] }, { accessFlags := 26, nameIndex := 57, descriptorIndex := 58, attributes := #[] }, { accessFlags := 26, nameIndex := 43, descriptorIndex := 44, attributes := #[] }, { accessFlags := 18, nameIndex := 18, descriptorIndex := 19, attributes := #[] }, { accessFlags := 18, nameIndex := 22, descriptorIndex := 19, attributes := #[] }])
  fields := #[{ name := "TEXT_LENGTH", type := .int, accessFlags := 26, slot := 0, constantValue := 0 }, { name := "BYTE_LENGTH", type := .int, accessFlags := 26, slot := 1, constantValue := 0 }, { name := "TEXT_ENCODER", type := (.object "java/util/Base64$Encoder"), accessFlags := 26, slot := 2, constantValue := 0 }, { name := "TEXT_DECODER", type := (.object "java/util/Base64$Decoder"), accessFlags := 26, slot := 3, constantValue := 0 }, { name := "mostSignificantBits", type := .long, accessFlags := 18, slot := 0, constantValue := 0 }, { name := "leastSignificantBits", type := .long, accessFlags := 18, slot := 1, constantValue := 0 }]
  methods := #[k3m0, k3m1]
  instanceTypes := #[.long, .long]
  staticTypes := #[.int, .int, (.object "java/util/Base64$Encoder"), (.object "java/util/Base64$Decoder")]
  resolved := Array.replicate 194 none
  statics := none }

def pool4 : Array CpInfo := pool [(1, .class_ 2), (0, u "java/io/Serializable"), (0, .class_ 4), (0, u "java/lang/Object")] 2

/-- java/io/Serializable -/
def k4 : Class := { plain "java/io/Serializable" (some 0) with
  accessFlags := 1537
  interfaces := #[]
  cf := some (fileOf pool4 1 #[] #[] 1537 3 #[] #[])
  fields := #[]
  methods := #[]
  instanceTypes := #[]
  staticTypes := #[]
  resolved := Array.replicate 7 none
  statics := none }

def pool5 : Array CpInfo := pool [(1, .methodref 2 3), (0, .class_ 4), (0, .nameAndType 5 6), (0, u "java/lang/Object"), (0, u "<init>"), (0, u "()V"), (1, .class_ 10), (1, u "java/lang/Number"), (2, .class_ 14), (0, u "java/io/Serializable"), (0, u "serialVersionUID"), (0, u "J")] 20

def k5c0 : Code := { maxStack := 1, maxLocals := 1, code := jdk_18_method_1_code, exceptionTable := #[], attributes := #[] }
def k5m0 : Method := { name := "<init>", desc := "()V", sig := { parameters := [], returnType := none }, accessFlags := 1, code := some k5c0 }
/-- java/lang/Number -/
def k5 : Class := { plain "java/lang/Number" (some 0) with
  accessFlags := 1057
  interfaces := #[4]
  cf := some (fileOf pool5 8 #[] #[{ accessFlags := 1, nameIndex := 5, descriptorIndex := 6, attributes := #[] }] 1057 2 #[13] #[{ accessFlags := 26, nameIndex := 15, descriptorIndex := 16, attributes := #[] }])
  fields := #[{ name := "serialVersionUID", type := .long, accessFlags := 26, slot := 0, constantValue := 0 }]
  methods := #[k5m0]
  instanceTypes := #[]
  staticTypes := #[.long]
  resolved := Array.replicate 37 none
  statics := none }

def pool6 : Array CpInfo := pool [(1, .class_ 2), (0, u "java/lang/constant/Constable"), (0, .class_ 4), (0, u "java/lang/Object")] 6

/-- java/lang/constant/Constable -/
def k6 : Class := { plain "java/lang/constant/Constable" (some 0) with
  accessFlags := 1537
  interfaces := #[]
  cf := some (fileOf pool6 1 #[] #[] 1537 3 #[] #[])
  fields := #[]
  methods := #[]
  instanceTypes := #[]
  staticTypes := #[]
  resolved := Array.replicate 11 none
  statics := none }

def pool7 : Array CpInfo := pool [(1, .class_ 2), (0, u "java/lang/constant/ConstantDesc"), (0, .class_ 4), (0, u "java/lang/Object")] 32

/-- java/lang/constant/ConstantDesc -/
def k7 : Class := { plain "java/lang/constant/ConstantDesc" (some 0) with
  accessFlags := 1537
  interfaces := #[]
  cf := some (fileOf pool7 1 #[] #[] 1537 3 #[] #[])
  fields := #[]
  methods := #[]
  instanceTypes := #[]
  staticTypes := #[]
  resolved := Array.replicate 37 none
  statics := none }

def pool8 : Array CpInfo := pool [(1, .class_ 2), (0, u "java/lang/Long"), (55, .nameAndType 59 60), (0, u "<init>"), (0, u "()V"), (24, u "valueOf"), (143, u "(J)Ljava/lang/Long;"), (0, .long 18446744073709551488), (1, .long 127), (1, .fieldref 235 236), (0, .class_ 237), (0, .nameAndType 238 239), (0, u "java/lang/Long$LongCache"), (0, u "cache"), (0, u "[Ljava/lang/Long;"), (0, .methodref 1 241), (0, .nameAndType 59 242), (0, u "(J)V"), (27, .methodref 271 58), (0, .class_ 272), (0, u "java/lang/Number"), (0, .fieldref 1 274), (0, .nameAndType 275 276), (0, u "value"), (0, u "J"), (84, u "TYPE"), (0, u "Ljava/lang/Class;"), (0, .class_ 364), (0, u "java/lang/Comparable"), (0, .class_ 366), (0, u "java/lang/constant/Constable"), (0, .class_ 368), (0, u "java/lang/constant/ConstantDesc"), (0, u "MIN_VALUE"), (1, u "MAX_VALUE"), (4, u "SIZE"), (0, u "I"), (1, u "BYTES"), (1, u "serialVersionUID")] 142

def k8c0 : Code := { maxStack := 4, maxLocals := 3, code := jdk_35_method_24_code, exceptionTable := #[], attributes := #[] }
def k8m0 : Method := { name := "valueOf", desc := "(J)Ljava/lang/Long;", sig := { parameters := [.long], returnType := some (.object "java/lang/Long") }, accessFlags := 9, code := some k8c0 }
def k8c1 : Code := { maxStack := 3, maxLocals := 3, code := jdk_35_method_26_code, exceptionTable := #[], attributes := #[] }
def k8m1 : Method := { name := "<init>", desc := "(J)V", sig := { parameters := [.long], returnType := none }, accessFlags := 1, code := some k8c1 }
/-- java/lang/Long -/
def k8 : Class := { plain "java/lang/Long" (some 5) with
  accessFlags := 49
  interfaces := #[2, 6, 7]
  cf := some (fileOf pool8 1 #[.nestMembers #[235]] #[{ accessFlags := 9, nameIndex := 85, descriptorIndex := 229, attributes := #[] }, { accessFlags := 1, nameIndex := 59, descriptorIndex := 242, attributes := #[] }] 49 271 #[363, 365, 367] #[{ accessFlags := 25, nameIndex := 369, descriptorIndex := 276, attributes := #[] }, { accessFlags := 25, nameIndex := 371, descriptorIndex := 276, attributes := #[] }, { accessFlags := 25, nameIndex := 361, descriptorIndex := 362, attributes := #[] }, { accessFlags := 18, nameIndex := 275, descriptorIndex := 276, attributes := #[] }, { accessFlags := 25, nameIndex := 376, descriptorIndex := 377, attributes := #[] }, { accessFlags := 25, nameIndex := 379, descriptorIndex := 377, attributes := #[] }, { accessFlags := 26, nameIndex := 381, descriptorIndex := 276, attributes := #[] }])
  fields := #[{ name := "MIN_VALUE", type := .long, accessFlags := 25, slot := 0, constantValue := 0 }, { name := "MAX_VALUE", type := .long, accessFlags := 25, slot := 1, constantValue := 0 }, { name := "TYPE", type := (.object "java/lang/Class"), accessFlags := 25, slot := 2, constantValue := 0 }, { name := "value", type := .long, accessFlags := 18, slot := 0, constantValue := 0 }, { name := "SIZE", type := .int, accessFlags := 25, slot := 3, constantValue := 0 }, { name := "BYTES", type := .int, accessFlags := 25, slot := 4, constantValue := 0 }, { name := "serialVersionUID", type := .long, accessFlags := 26, slot := 5, constantValue := 0 }]
  methods := #[k8m0, k8m1]
  instanceTypes := #[.long]
  staticTypes := #[.long, .long, (.object "java/lang/Class"), .int, .int, .long]
  resolved := Array.replicate 524 none
  statics := none }

def pool9 : Array CpInfo := pool [(2, .class_ 4), (1, u "java/lang/Object"), (0, u "<init>"), (0, u "()V"), (0, .class_ 8), (0, u "java/lang/Long"), (7, .class_ 18), (1, u "java/lang/Long$LongCache"), (0, u "$assertionsDisabled"), (0, u "Z"), (8, u "archivedCache"), (0, u "[Ljava/lang/Long;"), (7, u "cache")] 24

def k9m0 : Method := { name := "<init>", desc := "()V", sig := { parameters := [], returnType := none }, accessFlags := 2, code := none }
/-- java/lang/Long$LongCache -/
def k9 : Class := { plain "java/lang/Long$LongCache" (some 0) with
  accessFlags := 48
  interfaces := #[]
  cf := some (fileOf pool9 16 #[.nestHost 7] #[{ accessFlags := 2, nameIndex := 5, descriptorIndex := 6, attributes := #[] }] 48 2 #[] #[{ accessFlags := 24, nameIndex := 38, descriptorIndex := 30, attributes := #[] }, { accessFlags := 8, nameIndex := 29, descriptorIndex := 30, attributes := #[] }, { accessFlags := 4120, nameIndex := 19, descriptorIndex := 20, attributes := #[] }])
  fields := #[{ name := "cache", type := (.array (.object "java/lang/Long")), accessFlags := 24, slot := 0, constantValue := 0 }, { name := "archivedCache", type := (.array (.object "java/lang/Long")), accessFlags := 8, slot := 1, constantValue := 0 }, { name := "$assertionsDisabled", type := .boolean, accessFlags := 4120, slot := 2, constantValue := 0 }]
  methods := #[k9m0]
  instanceTypes := #[]
  staticTypes := #[(.array (.object "java/lang/Long")), (.array (.object "java/lang/Long")), .boolean]
  resolved := Array.replicate 63 none
  statics := some 0 }

def pool10 : Array CpInfo := pool [(1, u "java/lang/Cloneable"), (0, .class_ 1), (0, u "java/lang/Object"), (0, .class_ 3)] 3

/-- java/lang/Cloneable -/
def k10 : Class := { plain "java/lang/Cloneable" (some 0) with
  accessFlags := 1537
  interfaces := #[]
  cf := some (fileOf pool10 2 #[] #[] 1537 4 #[] #[])
  fields := #[]
  methods := #[]
  instanceTypes := #[]
  staticTypes := #[]
  resolved := Array.replicate 8 none
  statics := none }

/-- the primitive byte -/
def k11 : Class := { plain "byte" none with kind := .primitive 'B', accessFlags := 0x411 }
/-- [B -/
def k12 : Class := { plain "[B" (some 0) with kind := .array 11 .byte, interfaces := #[10, 4], accessFlags := 1041 }

/-- the primitive int -/
def k13 : Class := { plain "int" none with kind := .primitive 'I', accessFlags := 0x411 }
/-- [I -/
def k14 : Class := { plain "[I" (some 0) with kind := .array 13 .int, interfaces := #[10, 4], accessFlags := 1041 }

/-- [Ljava/lang/Long; -/
def k15 : Class := { plain "[Ljava/lang/Long;" (some 0) with kind := .array 8 (.object "java/lang/Long"), interfaces := #[10, 4], accessFlags := 1041 }

def heap : Heap := #[{ cls := 9, slots := #[.ref 1, .null, .int 0], vm := .statics 9 },
  { cls := 15, slots := #[.ref 2, .ref 3, .ref 4, .ref 5, .ref 6, .ref 7, .ref 8, .ref 9, .ref 10, .ref 11, .ref 12, .ref 13, .ref 14, .ref 15, .ref 16, .ref 17, .ref 18, .ref 19, .ref 20, .ref 21, .ref 22, .ref 23, .ref 24, .ref 25, .ref 26, .ref 27, .ref 28, .ref 29, .ref 30, .ref 31, .ref 32, .ref 33, .ref 34, .ref 35, .ref 36, .ref 37, .ref 38, .ref 39, .ref 40, .ref 41, .ref 42, .ref 43, .ref 44, .ref 45, .ref 46, .ref 47, .ref 48, .ref 49, .ref 50, .ref 51, .ref 52, .ref 53, .ref 54, .ref 55, .ref 56, .ref 57, .ref 58, .ref 59, .ref 60, .ref 61, .ref 62, .ref 63, .ref 64, .ref 65, .ref 66, .ref 67, .ref 68, .ref 69, .ref 70, .ref 71, .ref 72, .ref 73, .ref 74, .ref 75, .ref 76, .ref 77, .ref 78, .ref 79, .ref 80, .ref 81, .ref 82, .ref 83, .ref 84, .ref 85, .ref 86, .ref 87, .ref 88, .ref 89, .ref 90, .ref 91, .ref 92, .ref 93, .ref 94, .ref 95, .ref 96, .ref 97, .ref 98, .ref 99, .ref 100, .ref 101, .ref 102, .ref 103, .ref 104, .ref 105, .ref 106, .ref 107, .ref 108, .ref 109, .ref 110, .ref 111, .ref 112, .ref 113, .ref 114, .ref 115, .ref 116, .ref 117, .ref 118, .ref 119, .ref 120, .ref 121, .ref 122, .ref 123, .ref 124, .ref 125, .ref 126, .ref 127, .ref 128, .ref 129, .ref 130, .ref 131, .ref 132, .ref 133, .ref 134, .ref 135, .ref 136, .ref 137, .ref 138, .ref 139, .ref 140, .ref 141, .ref 142, .ref 143, .ref 144, .ref 145, .ref 146, .ref 147, .ref 148, .ref 149, .ref 150, .ref 151, .ref 152, .ref 153, .ref 154, .ref 155, .ref 156, .ref 157, .ref 158, .ref 159, .ref 160, .ref 161, .ref 162, .ref 163, .ref 164, .ref 165, .ref 166, .ref 167, .ref 168, .ref 169, .ref 170, .ref 171, .ref 172, .ref 173, .ref 174, .ref 175, .ref 176, .ref 177, .ref 178, .ref 179, .ref 180, .ref 181, .ref 182, .ref 183, .ref 184, .ref 185, .ref 186, .ref 187, .ref 188, .ref 189, .ref 190, .ref 191, .ref 192, .ref 193, .ref 194, .ref 195, .ref 196, .ref 197, .ref 198, .ref 199, .ref 200, .ref 201, .ref 202, .ref 203, .ref 204, .ref 205, .ref 206, .ref 207, .ref 208, .ref 209, .ref 210, .ref 211, .ref 212, .ref 213, .ref 214, .ref 215, .ref 216, .ref 217, .ref 218, .ref 219, .ref 220, .ref 221, .ref 222, .ref 223, .ref 224, .ref 225, .ref 226, .ref 227, .ref 228, .ref 229, .ref 230, .ref 231, .ref 232, .ref 233, .ref 234, .ref 235, .ref 236, .ref 237, .ref 238, .ref 239, .ref 240, .ref 241, .ref 242, .ref 243, .ref 244, .ref 245, .ref 246, .ref 247, .ref 248, .ref 249, .ref 250, .ref 251, .ref 252, .ref 253, .ref 254, .ref 255, .ref 256, .ref 257], vm := .none },
  { cls := 8, slots := #[.long (-128)], vm := .none },
  { cls := 8, slots := #[.long (-127)], vm := .none },
  { cls := 8, slots := #[.long (-126)], vm := .none },
  { cls := 8, slots := #[.long (-125)], vm := .none },
  { cls := 8, slots := #[.long (-124)], vm := .none },
  { cls := 8, slots := #[.long (-123)], vm := .none },
  { cls := 8, slots := #[.long (-122)], vm := .none },
  { cls := 8, slots := #[.long (-121)], vm := .none },
  { cls := 8, slots := #[.long (-120)], vm := .none },
  { cls := 8, slots := #[.long (-119)], vm := .none },
  { cls := 8, slots := #[.long (-118)], vm := .none },
  { cls := 8, slots := #[.long (-117)], vm := .none },
  { cls := 8, slots := #[.long (-116)], vm := .none },
  { cls := 8, slots := #[.long (-115)], vm := .none },
  { cls := 8, slots := #[.long (-114)], vm := .none },
  { cls := 8, slots := #[.long (-113)], vm := .none },
  { cls := 8, slots := #[.long (-112)], vm := .none },
  { cls := 8, slots := #[.long (-111)], vm := .none },
  { cls := 8, slots := #[.long (-110)], vm := .none },
  { cls := 8, slots := #[.long (-109)], vm := .none },
  { cls := 8, slots := #[.long (-108)], vm := .none },
  { cls := 8, slots := #[.long (-107)], vm := .none },
  { cls := 8, slots := #[.long (-106)], vm := .none },
  { cls := 8, slots := #[.long (-105)], vm := .none },
  { cls := 8, slots := #[.long (-104)], vm := .none },
  { cls := 8, slots := #[.long (-103)], vm := .none },
  { cls := 8, slots := #[.long (-102)], vm := .none },
  { cls := 8, slots := #[.long (-101)], vm := .none },
  { cls := 8, slots := #[.long (-100)], vm := .none },
  { cls := 8, slots := #[.long (-99)], vm := .none },
  { cls := 8, slots := #[.long (-98)], vm := .none },
  { cls := 8, slots := #[.long (-97)], vm := .none },
  { cls := 8, slots := #[.long (-96)], vm := .none },
  { cls := 8, slots := #[.long (-95)], vm := .none },
  { cls := 8, slots := #[.long (-94)], vm := .none },
  { cls := 8, slots := #[.long (-93)], vm := .none },
  { cls := 8, slots := #[.long (-92)], vm := .none },
  { cls := 8, slots := #[.long (-91)], vm := .none },
  { cls := 8, slots := #[.long (-90)], vm := .none },
  { cls := 8, slots := #[.long (-89)], vm := .none },
  { cls := 8, slots := #[.long (-88)], vm := .none },
  { cls := 8, slots := #[.long (-87)], vm := .none },
  { cls := 8, slots := #[.long (-86)], vm := .none },
  { cls := 8, slots := #[.long (-85)], vm := .none },
  { cls := 8, slots := #[.long (-84)], vm := .none },
  { cls := 8, slots := #[.long (-83)], vm := .none },
  { cls := 8, slots := #[.long (-82)], vm := .none },
  { cls := 8, slots := #[.long (-81)], vm := .none },
  { cls := 8, slots := #[.long (-80)], vm := .none },
  { cls := 8, slots := #[.long (-79)], vm := .none },
  { cls := 8, slots := #[.long (-78)], vm := .none },
  { cls := 8, slots := #[.long (-77)], vm := .none },
  { cls := 8, slots := #[.long (-76)], vm := .none },
  { cls := 8, slots := #[.long (-75)], vm := .none },
  { cls := 8, slots := #[.long (-74)], vm := .none },
  { cls := 8, slots := #[.long (-73)], vm := .none },
  { cls := 8, slots := #[.long (-72)], vm := .none },
  { cls := 8, slots := #[.long (-71)], vm := .none },
  { cls := 8, slots := #[.long (-70)], vm := .none },
  { cls := 8, slots := #[.long (-69)], vm := .none },
  { cls := 8, slots := #[.long (-68)], vm := .none },
  { cls := 8, slots := #[.long (-67)], vm := .none },
  { cls := 8, slots := #[.long (-66)], vm := .none },
  { cls := 8, slots := #[.long (-65)], vm := .none },
  { cls := 8, slots := #[.long (-64)], vm := .none },
  { cls := 8, slots := #[.long (-63)], vm := .none },
  { cls := 8, slots := #[.long (-62)], vm := .none },
  { cls := 8, slots := #[.long (-61)], vm := .none },
  { cls := 8, slots := #[.long (-60)], vm := .none },
  { cls := 8, slots := #[.long (-59)], vm := .none },
  { cls := 8, slots := #[.long (-58)], vm := .none },
  { cls := 8, slots := #[.long (-57)], vm := .none },
  { cls := 8, slots := #[.long (-56)], vm := .none },
  { cls := 8, slots := #[.long (-55)], vm := .none },
  { cls := 8, slots := #[.long (-54)], vm := .none },
  { cls := 8, slots := #[.long (-53)], vm := .none },
  { cls := 8, slots := #[.long (-52)], vm := .none },
  { cls := 8, slots := #[.long (-51)], vm := .none },
  { cls := 8, slots := #[.long (-50)], vm := .none },
  { cls := 8, slots := #[.long (-49)], vm := .none },
  { cls := 8, slots := #[.long (-48)], vm := .none },
  { cls := 8, slots := #[.long (-47)], vm := .none },
  { cls := 8, slots := #[.long (-46)], vm := .none },
  { cls := 8, slots := #[.long (-45)], vm := .none },
  { cls := 8, slots := #[.long (-44)], vm := .none },
  { cls := 8, slots := #[.long (-43)], vm := .none },
  { cls := 8, slots := #[.long (-42)], vm := .none },
  { cls := 8, slots := #[.long (-41)], vm := .none },
  { cls := 8, slots := #[.long (-40)], vm := .none },
  { cls := 8, slots := #[.long (-39)], vm := .none },
  { cls := 8, slots := #[.long (-38)], vm := .none },
  { cls := 8, slots := #[.long (-37)], vm := .none },
  { cls := 8, slots := #[.long (-36)], vm := .none },
  { cls := 8, slots := #[.long (-35)], vm := .none },
  { cls := 8, slots := #[.long (-34)], vm := .none },
  { cls := 8, slots := #[.long (-33)], vm := .none },
  { cls := 8, slots := #[.long (-32)], vm := .none },
  { cls := 8, slots := #[.long (-31)], vm := .none },
  { cls := 8, slots := #[.long (-30)], vm := .none },
  { cls := 8, slots := #[.long (-29)], vm := .none },
  { cls := 8, slots := #[.long (-28)], vm := .none },
  { cls := 8, slots := #[.long (-27)], vm := .none },
  { cls := 8, slots := #[.long (-26)], vm := .none },
  { cls := 8, slots := #[.long (-25)], vm := .none },
  { cls := 8, slots := #[.long (-24)], vm := .none },
  { cls := 8, slots := #[.long (-23)], vm := .none },
  { cls := 8, slots := #[.long (-22)], vm := .none },
  { cls := 8, slots := #[.long (-21)], vm := .none },
  { cls := 8, slots := #[.long (-20)], vm := .none },
  { cls := 8, slots := #[.long (-19)], vm := .none },
  { cls := 8, slots := #[.long (-18)], vm := .none },
  { cls := 8, slots := #[.long (-17)], vm := .none },
  { cls := 8, slots := #[.long (-16)], vm := .none },
  { cls := 8, slots := #[.long (-15)], vm := .none },
  { cls := 8, slots := #[.long (-14)], vm := .none },
  { cls := 8, slots := #[.long (-13)], vm := .none },
  { cls := 8, slots := #[.long (-12)], vm := .none },
  { cls := 8, slots := #[.long (-11)], vm := .none },
  { cls := 8, slots := #[.long (-10)], vm := .none },
  { cls := 8, slots := #[.long (-9)], vm := .none },
  { cls := 8, slots := #[.long (-8)], vm := .none },
  { cls := 8, slots := #[.long (-7)], vm := .none },
  { cls := 8, slots := #[.long (-6)], vm := .none },
  { cls := 8, slots := #[.long (-5)], vm := .none },
  { cls := 8, slots := #[.long (-4)], vm := .none },
  { cls := 8, slots := #[.long (-3)], vm := .none },
  { cls := 8, slots := #[.long (-2)], vm := .none },
  { cls := 8, slots := #[.long (-1)], vm := .none },
  { cls := 8, slots := #[.long (0)], vm := .none },
  { cls := 8, slots := #[.long (1)], vm := .none },
  { cls := 8, slots := #[.long (2)], vm := .none },
  { cls := 8, slots := #[.long (3)], vm := .none },
  { cls := 8, slots := #[.long (4)], vm := .none },
  { cls := 8, slots := #[.long (5)], vm := .none },
  { cls := 8, slots := #[.long (6)], vm := .none },
  { cls := 8, slots := #[.long (7)], vm := .none },
  { cls := 8, slots := #[.long (8)], vm := .none },
  { cls := 8, slots := #[.long (9)], vm := .none },
  { cls := 8, slots := #[.long (10)], vm := .none },
  { cls := 8, slots := #[.long (11)], vm := .none },
  { cls := 8, slots := #[.long (12)], vm := .none },
  { cls := 8, slots := #[.long (13)], vm := .none },
  { cls := 8, slots := #[.long (14)], vm := .none },
  { cls := 8, slots := #[.long (15)], vm := .none },
  { cls := 8, slots := #[.long (16)], vm := .none },
  { cls := 8, slots := #[.long (17)], vm := .none },
  { cls := 8, slots := #[.long (18)], vm := .none },
  { cls := 8, slots := #[.long (19)], vm := .none },
  { cls := 8, slots := #[.long (20)], vm := .none },
  { cls := 8, slots := #[.long (21)], vm := .none },
  { cls := 8, slots := #[.long (22)], vm := .none },
  { cls := 8, slots := #[.long (23)], vm := .none },
  { cls := 8, slots := #[.long (24)], vm := .none },
  { cls := 8, slots := #[.long (25)], vm := .none },
  { cls := 8, slots := #[.long (26)], vm := .none },
  { cls := 8, slots := #[.long (27)], vm := .none },
  { cls := 8, slots := #[.long (28)], vm := .none },
  { cls := 8, slots := #[.long (29)], vm := .none },
  { cls := 8, slots := #[.long (30)], vm := .none },
  { cls := 8, slots := #[.long (31)], vm := .none },
  { cls := 8, slots := #[.long (32)], vm := .none },
  { cls := 8, slots := #[.long (33)], vm := .none },
  { cls := 8, slots := #[.long (34)], vm := .none },
  { cls := 8, slots := #[.long (35)], vm := .none },
  { cls := 8, slots := #[.long (36)], vm := .none },
  { cls := 8, slots := #[.long (37)], vm := .none },
  { cls := 8, slots := #[.long (38)], vm := .none },
  { cls := 8, slots := #[.long (39)], vm := .none },
  { cls := 8, slots := #[.long (40)], vm := .none },
  { cls := 8, slots := #[.long (41)], vm := .none },
  { cls := 8, slots := #[.long (42)], vm := .none },
  { cls := 8, slots := #[.long (43)], vm := .none },
  { cls := 8, slots := #[.long (44)], vm := .none },
  { cls := 8, slots := #[.long (45)], vm := .none },
  { cls := 8, slots := #[.long (46)], vm := .none },
  { cls := 8, slots := #[.long (47)], vm := .none },
  { cls := 8, slots := #[.long (48)], vm := .none },
  { cls := 8, slots := #[.long (49)], vm := .none },
  { cls := 8, slots := #[.long (50)], vm := .none },
  { cls := 8, slots := #[.long (51)], vm := .none },
  { cls := 8, slots := #[.long (52)], vm := .none },
  { cls := 8, slots := #[.long (53)], vm := .none },
  { cls := 8, slots := #[.long (54)], vm := .none },
  { cls := 8, slots := #[.long (55)], vm := .none },
  { cls := 8, slots := #[.long (56)], vm := .none },
  { cls := 8, slots := #[.long (57)], vm := .none },
  { cls := 8, slots := #[.long (58)], vm := .none },
  { cls := 8, slots := #[.long (59)], vm := .none },
  { cls := 8, slots := #[.long (60)], vm := .none },
  { cls := 8, slots := #[.long (61)], vm := .none },
  { cls := 8, slots := #[.long (62)], vm := .none },
  { cls := 8, slots := #[.long (63)], vm := .none },
  { cls := 8, slots := #[.long (64)], vm := .none },
  { cls := 8, slots := #[.long (65)], vm := .none },
  { cls := 8, slots := #[.long (66)], vm := .none },
  { cls := 8, slots := #[.long (67)], vm := .none },
  { cls := 8, slots := #[.long (68)], vm := .none },
  { cls := 8, slots := #[.long (69)], vm := .none },
  { cls := 8, slots := #[.long (70)], vm := .none },
  { cls := 8, slots := #[.long (71)], vm := .none },
  { cls := 8, slots := #[.long (72)], vm := .none },
  { cls := 8, slots := #[.long (73)], vm := .none },
  { cls := 8, slots := #[.long (74)], vm := .none },
  { cls := 8, slots := #[.long (75)], vm := .none },
  { cls := 8, slots := #[.long (76)], vm := .none },
  { cls := 8, slots := #[.long (77)], vm := .none },
  { cls := 8, slots := #[.long (78)], vm := .none },
  { cls := 8, slots := #[.long (79)], vm := .none },
  { cls := 8, slots := #[.long (80)], vm := .none },
  { cls := 8, slots := #[.long (81)], vm := .none },
  { cls := 8, slots := #[.long (82)], vm := .none },
  { cls := 8, slots := #[.long (83)], vm := .none },
  { cls := 8, slots := #[.long (84)], vm := .none },
  { cls := 8, slots := #[.long (85)], vm := .none },
  { cls := 8, slots := #[.long (86)], vm := .none },
  { cls := 8, slots := #[.long (87)], vm := .none },
  { cls := 8, slots := #[.long (88)], vm := .none },
  { cls := 8, slots := #[.long (89)], vm := .none },
  { cls := 8, slots := #[.long (90)], vm := .none },
  { cls := 8, slots := #[.long (91)], vm := .none },
  { cls := 8, slots := #[.long (92)], vm := .none },
  { cls := 8, slots := #[.long (93)], vm := .none },
  { cls := 8, slots := #[.long (94)], vm := .none },
  { cls := 8, slots := #[.long (95)], vm := .none },
  { cls := 8, slots := #[.long (96)], vm := .none },
  { cls := 8, slots := #[.long (97)], vm := .none },
  { cls := 8, slots := #[.long (98)], vm := .none },
  { cls := 8, slots := #[.long (99)], vm := .none },
  { cls := 8, slots := #[.long (100)], vm := .none },
  { cls := 8, slots := #[.long (101)], vm := .none },
  { cls := 8, slots := #[.long (102)], vm := .none },
  { cls := 8, slots := #[.long (103)], vm := .none },
  { cls := 8, slots := #[.long (104)], vm := .none },
  { cls := 8, slots := #[.long (105)], vm := .none },
  { cls := 8, slots := #[.long (106)], vm := .none },
  { cls := 8, slots := #[.long (107)], vm := .none },
  { cls := 8, slots := #[.long (108)], vm := .none },
  { cls := 8, slots := #[.long (109)], vm := .none },
  { cls := 8, slots := #[.long (110)], vm := .none },
  { cls := 8, slots := #[.long (111)], vm := .none },
  { cls := 8, slots := #[.long (112)], vm := .none },
  { cls := 8, slots := #[.long (113)], vm := .none },
  { cls := 8, slots := #[.long (114)], vm := .none },
  { cls := 8, slots := #[.long (115)], vm := .none },
  { cls := 8, slots := #[.long (116)], vm := .none },
  { cls := 8, slots := #[.long (117)], vm := .none },
  { cls := 8, slots := #[.long (118)], vm := .none },
  { cls := 8, slots := #[.long (119)], vm := .none },
  { cls := 8, slots := #[.long (120)], vm := .none },
  { cls := 8, slots := #[.long (121)], vm := .none },
  { cls := 8, slots := #[.long (122)], vm := .none },
  { cls := 8, slots := #[.long (123)], vm := .none },
  { cls := 8, slots := #[.long (124)], vm := .none },
  { cls := 8, slots := #[.long (125)], vm := .none },
  { cls := 8, slots := #[.long (126)], vm := .none },
  { cls := 8, slots := #[.long (127)], vm := .none }]
def classes : Array Class := #[k0, k1, k2, k3, k4, k5, k6, k7, k8, k9, k10, k11, k12, k13, k14, k15]
def interned : List (Array UInt16 × Addr) := []
def slotsUsed : Nat := 515
def theMethod : MethodId := ⟨1, 1⟩
def args0 : Array Value := #[.long 5, .long 1, .long 2, .long 3, .int 0]
def aboutOver (below : List Frame) : State where
  vm := { classes := classes, interned := interned.toArray }
  heap := heap
  slotsUsed := slotsUsed
  threads := #[{ frames := .invoking theMethod args0 :: below }]
def below0 : List Frame := [.native { method := ⟨0, 0⟩, args := #[] }]
def about1 : State := aboutOver below0
def p0 : Program := .bare "" "" ""
def e0 : Env := launch0.env 0 0 0
theorem w_frames : about1.frames = Frame.invoking theMethod args0 :: below0 := rfl
set_option maxRecDepth 65536 in
theorem w_args : argsFit about1.vm theMethod args0 = true := by decide +kernel
set_option maxRecDepth 65536 in
theorem w_heap : heapFits about1 = true := by decide +kernel
set_option maxRecDepth 65536 in
theorem w_runnable : about1.curStatus? = some .runnable := by decide +kernel
set_option maxRecDepth 65536 in
theorem w_alone : about1.alone = true := by decide +kernel
set_option maxRecDepth 65536 in
theorem w_named : about1.methodNamed? x = some theMethod := by decide +kernel
set_option maxRecDepth 65536 in
theorem w_hears : about1.hears theMethod below0 = true := by decide +kernel
set_option maxRecDepth 65536 in
theorem w_ripe : about1.ripe theMethod args0 below0 = true := by decide +kernel
theorem w_running : about1.status = .running := rfl
set_option maxRecDepth 65536 in
theorem w_room : about1.hasRoom e0.platform room_1 = true :=
  launch0.hasRoom_least _ room_1 (by decide +kernel) (by decide +kernel) (by decide +kernel) (by decide +kernel) (by decide +kernel) (by decide +kernel)
theorem allAtoms_all (ts : List Jvm.Cond) (a : Array Jvm.Value) (st : Jvm.State) : (allAtoms ts).before a st = ts.all (fun c => c.before a st) := by
  induction ts with
  | nil => rfl
  | cons c t ih =>
    show (Jvm.Cond.and c (allAtoms t)).before a st = _
    rw [Jvm.Cond.before_and, ih, List.all_cons]
def words1 : List Jvm.Cond := Jvm.Cond.code x code maxLocals ret :: tables_1
/-- a 'code' word, met by the world's own term for the bytes: nothing is compared byte by byte -/
theorem code_word {y : MethodName} {bytes : ByteArray} {mx : Nat} {rt : Option FieldType} {a : Array Value} {s : State} {m : MethodId} {meth : Method} {c : Code} (h1 : s.methodNamed? y = some m) (h2 : s.vm.method? m = some meth) (h3 : meth.code = some c) (h4 : c.code = bytes)
    (h5 : (c.maxLocals == mx && c.exceptionTable.isEmpty && decide (c.maxStack ≤ mostOperands) && decide (meth.sig.returnType = rt) && !meth.locks && decide (parseMethodDescriptor y.desc = some meth.sig)) = true) : (Jvm.Cond.code y bytes mx rt).before a s = true := by
  simp only [Bool.and_eq_true, beq_iff_eq, Bool.not_eq_true', decide_eq_true_eq] at h5
  obtain ⟨⟨⟨⟨⟨g1, g2⟩, g3⟩, g4⟩, g5⟩, g6⟩ := h5
  simp [Cond.before, Cond.holds, Cond.value, h1, h2, h3, h4, g1, g2, g3, g4, g5, g6]
def isCode : Jvm.Cond → Bool
  | .code _ _ _ _ => true
  | _ => false
theorem all_split {L : List Jvm.Cond} {P : Jvm.Cond → Bool} (h1 : L.all (fun c => isCode c || P c) = true) (h2 : ∀ c ∈ L.filter isCode, P c = true) : L.all P = true := by
  refine List.all_eq_true.mpr fun c hc => ?_
  have h := List.all_eq_true.mp h1 c hc
  rcases Bool.eq_false_or_eq_true (isCode c) with hi | hi
  · exact h2 c (List.mem_filter.mpr ⟨hc, hi⟩)
  · simpa [hi] using h
set_option maxRecDepth 65536 in
theorem w_c0 : (Jvm.Cond.code x code maxLocals ret).before args0 about1 = true := code_word (m := ⟨1, 1⟩) (meth := k1m1) (c := k1c1) (by decide +kernel) rfl rfl rfl (by decide +kernel)
set_option maxRecDepth 65536 in
theorem w_c1 : (Jvm.Cond.code ({ cls := "com/example/stickler/stickler/metadata/TopicId", name := "<init>", desc := "(JJ)V" } : Jvm.MethodName) prog_28_method_1_code (5 : Nat) (Option.none : Option Jvm.ClassFile.FieldType)).before args0 about1 = true := code_word (m := ⟨3, 0⟩) (meth := k3m0) (c := k3c0) (by decide +kernel) rfl rfl rfl (by decide +kernel)
set_option maxRecDepth 65536 in
theorem w_c2 : (Jvm.Cond.code ({ cls := "java/lang/Object", name := "<init>", desc := "()V" } : Jvm.MethodName) object_method_1_code (1 : Nat) (Option.none : Option Jvm.ClassFile.FieldType)).before args0 about1 = true := code_word (m := ⟨0, 0⟩) (meth := k0m0) (c := k0c0) (by decide +kernel) rfl rfl rfl (by decide +kernel)
set_option maxRecDepth 65536 in
theorem w_c3 : (Jvm.Cond.code ({ cls := "java/lang/Long", name := "valueOf", desc := "(J)Ljava/lang/Long;" } : Jvm.MethodName) jdk_35_method_24_code (3 : Nat) (Option.some (Jvm.ClassFile.FieldType.object "java/lang/Long"))).before args0 about1 = true := code_word (m := ⟨8, 0⟩) (meth := k8m0) (c := k8c0) (by decide +kernel) rfl rfl rfl (by decide +kernel)
set_option maxRecDepth 65536 in
theorem w_c4 : (Jvm.Cond.code ({ cls := "com/example/stickler/stickler/metadata/TopicId", name := "equals", desc := "(Ljava/lang/Object;)Z" } : Jvm.MethodName) prog_28_method_6_code (3 : Nat) (Option.some Jvm.ClassFile.FieldType.boolean)).before args0 about1 = true := code_word (m := ⟨3, 1⟩) (meth := k3m1) (c := k3c1) (by decide +kernel) rfl rfl rfl (by decide +kernel)
set_option maxRecDepth 65536 in
theorem w_c5 : (Jvm.Cond.code ({ cls := "java/lang/Long", name := "<init>", desc := "(J)V" } : Jvm.MethodName) jdk_35_method_26_code (3 : Nat) (Option.none : Option Jvm.ClassFile.FieldType)).before args0 about1 = true := code_word (m := ⟨8, 1⟩) (meth := k8m1) (c := k8c1) (by decide +kernel) rfl rfl rfl (by decide +kernel)
set_option maxRecDepth 65536 in
theorem w_c6 : (Jvm.Cond.code ({ cls := "java/lang/Number", name := "<init>", desc := "()V" } : Jvm.MethodName) jdk_18_method_1_code (1 : Nat) (Option.none : Option Jvm.ClassFile.FieldType)).before args0 about1 = true := code_word (m := ⟨5, 0⟩) (meth := k5m0) (c := k5c0) (by decide +kernel) rfl rfl rfl (by decide +kernel)
def codes1 : List Jvm.Cond := [Jvm.Cond.code x code maxLocals ret, Jvm.Cond.code ({ cls := "com/example/stickler/stickler/metadata/TopicId", name := "<init>", desc := "(JJ)V" } : Jvm.MethodName) prog_28_method_1_code (5 : Nat) (Option.none : Option Jvm.ClassFile.FieldType), Jvm.Cond.code ({ cls := "java/lang/Object", name := "<init>", desc := "()V" } : Jvm.MethodName) object_method_1_code (1 : Nat) (Option.none : Option Jvm.ClassFile.FieldType), Jvm.Cond.code ({ cls := "java/lang/Long", name := "valueOf", desc := "(J)Ljava/lang/Long;" } : Jvm.MethodName) jdk_35_method_24_code (3 : Nat) (Option.some (Jvm.ClassFile.FieldType.object "java/lang/Long")), Jvm.Cond.code ({ cls := "com/example/stickler/stickler/metadata/TopicId", name := "equals", desc := "(Ljava/lang/Object;)Z" } : Jvm.MethodName) prog_28_method_6_code (3 : Nat) (Option.some Jvm.ClassFile.FieldType.boolean), Jvm.Cond.code ({ cls := "java/lang/Long", name := "<init>", desc := "(J)V" } : Jvm.MethodName) jdk_35_method_26_code (3 : Nat) (Option.none : Option Jvm.ClassFile.FieldType), Jvm.Cond.code ({ cls := "java/lang/Number", name := "<init>", desc := "()V" } : Jvm.MethodName) jdk_18_method_1_code (1 : Nat) (Option.none : Option Jvm.ClassFile.FieldType)]
set_option maxRecDepth 65536 in
theorem codes_eq : words1.filter isCode = codes1 := rfl
theorem w_codes : ∀ c ∈ words1.filter isCode, c.before args0 about1 = true := by
  rw [codes_eq]
  intro c hc
  simp only [codes1, List.mem_cons, List.not_mem_nil, or_false] at hc
  rcases hc with rfl | rfl | rfl | rfl | rfl | rfl | rfl
  · exact w_c0
  · exact w_c1
  · exact w_c2
  · exact w_c3
  · exact w_c4
  · exact w_c5
  · exact w_c6
set_option maxRecDepth 65536 in
theorem w_t1 : (words1.take 24).all (fun c => isCode c || c.before args0 about1) = true := by decide +kernel
set_option maxRecDepth 65536 in
theorem w_t2 : (words1.drop 24).all (fun c => isCode c || c.before args0 about1) = true := by decide +kernel
theorem w_tables : (allAtoms (Jvm.Cond.code x code maxLocals ret :: tables_1)).before args0 about1 = true := by
  rw [allAtoms_all]
  show words1.all (fun c => c.before args0 about1) = true
  refine all_split ?_ w_codes
  rw [← List.take_append_drop 24 words1, List.all_append, w_t1, w_t2]
  rfl
set_option maxRecDepth 65536 in
theorem w_rest : rest_1_c.before args0 about1 = true := by decide +kernel
set_option maxRecDepth 65536 in
theorem w_case : (Jvm.Cond.and given_1 narrow_1).before args0 about1 = true := by decide +kernel
theorem w_applies : (headSpec (Jvm.Cond.code x code maxLocals ret :: tables_1) room_1).applies x e0.platform about1 = true :=
  (Spec.applies_iff w_frames).mpr ⟨w_running, w_runnable, w_alone, w_named, w_hears, w_ripe, w_room, w_tables⟩
theorem atStart : AtStart classFile x code maxLocals ret World_1 tables_1 room_1 Calls_1 rest_1 Pre_1 launch0 p0 e0 about1 theMethod args0 below0 :=
  ⟨lists_1, trivial, launch0.admits_env _ _ _, launch0.least_env, fairChoices_fair.cas, fairChoices_fair.clock, w_frames, w_args, w_heap, w_applies, trivial, w_rest, w_case⟩
end start1
theorem witness_1 : WitnessClaimed_1 := ⟨start1.p0, start1.e0, start1.about1, start1.theMethod, start1.args0, start1.below0, start1.atStart⟩
end Jvm.Pilot.@@N@@
