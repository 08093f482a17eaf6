import JvmDerived
import JvmDerived.Pilot.@@N@@Statement
import JvmDerived.Pilot.@@N@@Code
set_option linter.unusedVariables false
set_option linter.unusedSimpArgs false
namespace Jvm.Pilot.@@N@@
open Jvm Jvm.ClassFile Sem Op Lib Jvm.Free Jvm.Stand Jvm.LawKit Jvm.RoadKit Bundle Jvm.Pilot.@@N@@.Jvm.D
theorem own_g {Z : State} {a0 : Array Value} (hw : ∀ d ∈ tables_1, d.before a0 Z = true) {i : Nat} {d : Jvm.Cond} (h : tables_1[i]? = some d) : d.before a0 Z = true := hw _ (List.mem_of_getElem? h)
/-- the walk from the frame g in the state T comes to an end of which K holds -/
def own_E (p : Program) (e : Env) (below : List Frame) (K : Outcome → State → Prop) (T : State) (g : JFrame) : Prop := ∃ s₂ o, Steps p.tables e below (T.setTop g) s₂ ∧ s₂.status = .running ∧ Ended s₂ below o ∧ K o s₂
def own_K (s : State) (Q : Option Value → Heap → List Loc → Prop) (kc ks : Nat) (o : Outcome) (U : State) : Prop := ∃ v L, o = .returned v ∧ Q v U.heap L ∧ FrameEnd s o U L kc ks
section OwnKit
variable {p : Program} {l : Launch} {e : Env} {R : Room} {s : State} {m : MethodId} {args : Array Value} {below : List Frame} {meth : Method} {c : Code} {T T' : State} {locs : List Loc} {cells slots : Nat} {K : Outcome → State → Prop} {Z : State} {h h' : Heap}
theorem own_S {g : JFrame} (g' : JFrame) (st : ∀ t, Steps p.tables e below (T'.setTop g') t → Steps p.tables e below (T.setTop g) t) (k : own_E p e below K T' g') : own_E p e below K T g := by
  obtain ⟨s₂, o, h1, h2⟩ := k
  exact ⟨s₂, o, st _ h1, h2⟩
theorem own_s {g : JFrame} {t : State} (g' : JFrame) (st : ∀ t, Steps p.tables e below (T'.setTop g') t → Steps p.tables e below (T.setTop g) t) (k : Steps p.tables e below (T'.setTop g') t) : Steps p.tables e below (T.setTop g) t := st t k
theorem own_ret {Q : Option Value → Heap → List Loc → Prop} {kc ks : Nat} (X : Stand p l e R s m args below meth c T locs cells slots) (hx : p.tables.exec = Jvm.exec) (hlk : meth.locks = false) {pc : Nat} {Ls : Array Slot} {w : Value} {t : FieldType} {i : Instr} {rest : List Value} (hret : meth.sig.returnType = some t) (hn : narrow t w = w)
    (hi : (i = .ireturn ∧ (t = .int ∨ t = .boolean ∨ t = .byte ∨ t = .char ∨ t = .short) ∧ ∃ z, w = .int z) ∨ (i = .lreturn ∧ t = .long ∧ ∃ z, w = .long z) ∨ (i = .dreturn ∧ t = .double ∧ ∃ z, w = .double z) ∨ (i = .freturn ∧ t = .float ∧ ∃ z, w = .float z) ∨ (i = .areturn ∧ t.isReference = true ∧ w.isRef = true))
    (hd : decode c.code pc = .ok (i, 1)) (hQ : Q (some w) T.heap locs) (h1 : cells ≤ kc) (h2 : slots ≤ ks) : own_E p e below (own_K s Q kc ks) T (mkF m pc Ls (w :: rest)) := by
  obtain ⟨fs, hr, hrun, hended, hW, hsame⟩ := X.leave (v := some w) (fun h => by rw [hret] at h; cases h) hlk
  exact ⟨_, _, retOut X hx hret hn hi hd hr, hrun, hended, _, _, rfl, hQ, ⟨_, rfl⟩, hW, hsame.mono h1 h2⟩
theorem own_retN {Q : Option Value → Heap → List Loc → Prop} {kc ks : Nat} (X : Stand p l e R s m args below meth c T locs cells slots) (hx : p.tables.exec = Jvm.exec) (hlk : meth.locks = false) {pc : Nat} {Ls : Array Slot} {z : Int32} {t : FieldType} {rest : List Value} (hret : meth.sig.returnType = some t) (ht : t = .boolean ∨ t = .byte ∨ t = .char ∨ t = .short)
    (hd : decode c.code pc = .ok (.ireturn, 1)) (hQ : Q (some (.int (nar t z))) T.heap locs) (h1 : cells ≤ kc) (h2 : slots ≤ ks) : own_E p e below (own_K s Q kc ks) T (mkF m pc Ls (.int z :: rest)) := by
  obtain ⟨fs, hr, hrun, hended, hW, hsame⟩ := X.leave (v := some (.int (nar t z))) (fun h => by rw [hret] at h; cases h) hlk
  exact ⟨_, _, retN X hx hret ht hd hr, hrun, hended, _, _, rfl, hQ, ⟨_, rfl⟩, hW, hsame.mono h1 h2⟩
theorem own_ret0 {Q : Option Value → Heap → List Loc → Prop} {kc ks : Nat} (X : Stand p l e R s m args below meth c T locs cells slots) (hx : p.tables.exec = Jvm.exec) (hlk : meth.locks = false) {pc : Nat} {Ls : Array Slot} (hret : meth.sig.returnType = none)
    (hd : decode c.code pc = .ok (.return_, 1)) (hQ : Q none T.heap locs) (h1 : cells ≤ kc) (h2 : slots ≤ ks) : own_E p e below (own_K s Q kc ks) T (mkF m pc Ls []) := by
  obtain ⟨fs, hr, hrun, hended, hW, hsame⟩ := X.leave (v := none) (fun _ => rfl) hlk
  exact ⟨_, _, X.returnOut hx hret hd hr, hrun, hended, _, _, rfl, hQ, ⟨_, rfl⟩, hW, hsame.mono h1 h2⟩
theorem own_weak (X : Stand p l e R s m args below meth c T locs cells slots) {locs' : List Loc} {kc ks : Nat} (hl : ∀ y ∈ locs, y ∈ locs' ∨ s.heap.size ≤ y.base) (h1 : cells ≤ kc) (h2 : slots ≤ ks) : Stand p l e R s m args below meth c T locs' kc ks :=
  { X with same := (X.same.sift hl).mono h1 h2 }
theorem Sta_keep {C n d : String} {w : Value} {ws : List Addr} {n0 : Nat} (F : Sta Z h C n d w) (K : Keep h h' ws) (hn : ∀ a ∈ ws, ∀ cell : Cell, h[a]? = some cell → cell.vm.isStatics = false) : Sta Z h' C n d w := by
  obtain ⟨cf, i, k, f, st, cell, h1, h2, h3, h4, h5, h6, h7⟩ := F
  exact ⟨cf, i, k, f, st, cell, h1, h2, h3, h4, K.2.1 st cell h5 (fun q => by have := hn st q cell h5; rw [h6] at this; cases this), h6, h7⟩
theorem Ins_keep {a : Addr} {C : String} {b : Bool} {ws : List Addr} (F : Ins Z h a C b) (K : Keep h h' ws) : Ins Z h' a C b := by
  obtain ⟨cell, cT, h1, h2, h3⟩ := F
  obtain ⟨c', q1, q2, q3, -⟩ := K.2.2 a cell h1
  exact ⟨c', cT, q1, h2, by rw [q2, q3]; exact h3⟩
end OwnKit
theorem own_fieldI {Z : State} {args : Array Value} {t : Term} {C n d : String} {k : Int32} {a : Addr} (ev : t.eval args Z none [] Z = some (.ref a)) (h : (Cond.eq (.field t C n d) (.int k)).value args Z none Z [] = some true) : Fld Z Z.heap a C n d (.int k) := by
  obtain ⟨x, y, h1, h2, k1, k2⟩ := cmp_v (Or.inl h)
  have hy : y = .int k := (Option.some.inj h2).symm
  subst hy
  obtain ⟨z, rfl⟩ : ∃ z, x = .int z := k2
  have hz : z = k := gotT (Cond.eq_ints h1 h2) h
  subst hz
  exact Fld.start ((fld_at ev).symm.trans h1)
theorem own_exa_plain {Z : State} {h : Heap} {a : Addr} {C : String} (F : Exa Z h a C) : ∀ cell : Cell, h[a]? = some cell → cell.vm.isStatics = false := fun cell hc => by
  obtain ⟨c1, k, h1, h2, h3, h4, h5⟩ := F
  cases h1.symm.trans hc
  exact h4
theorem own_allS {P : Addr → Prop} {y : Addr} {L : List Addr} (q : P y) (r : ∀ x ∈ L, P x) : ∀ x ∈ y :: L, P x := fun x z => (List.mem_cons.mp z).elim (fun u => u ▸ q) (r x)
theorem own_shr (v : Int64) : (((v).toUInt64 >>> ((1 : Int32) &&& 0x3f).toInt64.toUInt64).toInt64) = (0 : Int64) ↔ (v = 0 ∨ v = 1) := by
  have h1 : ((1 : Int32) &&& 0x3f).toInt64.toUInt64 = 1 := by decide
  rw [h1]
  have h2 : ((v.toUInt64 >>> 1).toInt64 = 0) ↔ (v.toUInt64 >>> 1 = 0) := by
    constructor
    · intro h
      have q := congrArg Int64.toUInt64 h
      rw [UInt64.toUInt64_toInt64] at q
      rw [q]
      decide
    · intro h; rw [h]; rfl
  rw [h2]
  have h3 : (v.toUInt64 >>> 1 = 0) ↔ v.toUInt64.toNat / 2 = 0 := by
    rw [← UInt64.toNat_inj, UInt64.toNat_shiftRight]
    have : (1 : UInt64).toNat % 64 = 1 := by decide
    rw [this, Nat.shiftRight_eq_div_pow]
    rfl
  rw [h3]
  have h4 : ∀ w : Int64, v = w ↔ v.toUInt64.toNat = w.toUInt64.toNat := fun w => by
    constructor
    · intro h; rw [h]
    · intro h
      have := UInt64.toNat_inj.mp h
      have := congrArg UInt64.toInt64 this
      simpa using this
  rw [h4 0, h4 1]
  have e0 : (0 : Int64).toUInt64.toNat = 0 := by decide
  have e1 : (1 : Int64).toUInt64.toNat = 1 := by decide
  rw [e0, e1]
  omega
theorem own_law1 {ab an : Addr} (h : ab ≠ an) (v : Int64) : (if ab = an ∨ v = (0 : Int64) ∨ v = (1 : Int64) then (1 : Int32) else (0 : Int32)) = (if (((v).toUInt64 >>> ((1 : Int32) &&& 0x3f).toInt64.toUInt64).toInt64) = (0 : Int64) then (1 : Int32) else (0 : Int32)) := by
  have := own_shr v
  simp only [h, false_or, this]
abbrev own_y0 : MethodName := ⟨"com/example/referee/referee/logic/stream/StreamType", "holds", "(J)Z"⟩
theorem d1_0 : decode prog_123_method_7_code 0 = .ok (.aload_n 0, 1) := by decide +kernel
theorem d1_1 : decode prog_123_method_7_code 1 = .ok (.getstatic 3, 3) := by decide +kernel
theorem d1_4 : decode prog_123_method_7_code 4 = .ok (.if_acmp .eq 15, 3) := by decide +kernel
theorem d1_7 : decode prog_123_method_7_code 7 = .ok (.lload_n 1, 1) := by decide +kernel
theorem d1_8 : decode prog_123_method_7_code 8 = .ok (.lconst 0, 1) := by decide +kernel
theorem d1_9 : decode prog_123_method_7_code 9 = .ok (.lcmp, 1) := by decide +kernel
theorem d1_10 : decode prog_123_method_7_code 10 = .ok (.ifCond .eq 9, 3) := by decide +kernel
theorem d1_13 : decode prog_123_method_7_code 13 = .ok (.lload_n 1, 1) := by decide +kernel
theorem d1_14 : decode prog_123_method_7_code 14 = .ok (.lconst 1, 1) := by decide +kernel
theorem d1_15 : decode prog_123_method_7_code 15 = .ok (.lcmp, 1) := by decide +kernel
theorem d1_16 : decode prog_123_method_7_code 16 = .ok (.ifCond .ne 7, 3) := by decide +kernel
theorem d1_19 : decode prog_123_method_7_code 19 = .ok (.iconst 1, 1) := by decide +kernel
theorem d1_20 : decode prog_123_method_7_code 20 = .ok (.goto 4, 3) := by decide +kernel
theorem d1_23 : decode prog_123_method_7_code 23 = .ok (.iconst 0, 1) := by decide +kernel
theorem d1_24 : decode prog_123_method_7_code 24 = .ok (.ireturn, 1) := by decide +kernel
theorem own_pn_com_example_referee_referee_logic_stream_StreamType : plainName "com/example/referee/referee/logic/stream/StreamType" = true := by first | (simp [plainName, overriddenIn]; done) | decide +kernel
theorem own_ef_ho (m : MethodId) (y0 : Addr) (y1 : Int64) : entryFrame m #[(.ref y0), (.long y1)] 3 = mkF m 0 #[rv y0, .val (.long y1), .second] [] := by first | (simp [entryFrame, mkF, argsToLocals, Value.category]; done) | rfl
def own_Qho (Z : State) (a : Addr) (v1 : Int64) (an : Addr) (h0 : Heap) (n0 : Nat) (v : Option Value) (h : Heap) (L : List Loc) : Prop := v = some (.int (if a = an ∨ v1 = (0 : Int64) ∨ v1 = (1 : Int64) then (1 : Int32) else (0 : Int32))) ∧ Fr n0 L ∧ h = h0
set_option maxRecDepth 65536 in
set_option maxHeartbeats 40000000 in
theorem own_rmho (l : Launch) (Z : State) (a0 : Array Value) (hw : ∀ d ∈ tables_1, d.before a0 Z = true) (ws : List Jvm.Cond) (a : Addr) (v1 : Int64) (an : Addr) (h0 : Heap) (n0 : Nat) (Z0 : n0 ≤ h0.size) (P0 : Sta Z h0 "com/example/referee/referee/logic/stream/StreamType" "NUM" "Lcom/example/referee/referee/logic/stream/StreamType;" (.ref an)) :
    MetFree l own_y0 (head1 (Jvm.Cond.code own_y0 prog_123_method_7_code 3 (some .boolean) :: ws) ({ frames := 0, cells := 0, slots := 0, locals := 0 } : Room)) (fun az Uz => az = #[(.ref a), (.long v1)] ∧ Z.Warmed39 Uz.vm ∧ Uz.heap = h0) (fun _ _ _ _ _ => True) (fun _ U o U' => ∃ v L, o = .returned v ∧ own_Qho Z a v1 an h0 n0 v U'.heap L ∧ FrameEnd U o U' L ({ frames := 0, cells := 0, slots := 0, locals := 0 } : Room).cells ({ frames := 0, cells := 0, slots := 0, locals := 0 } : Room).slots) := by
  refine MetFree.of_bodySF (plainFor_of_name own_pn_com_example_referee_referee_logic_stream_StreamType) hisR ?_
  intro p e s m args below meth c s₁ Bd hml0 hP hK
  obtain ⟨rfl, hZ, hh⟩ := hP
  have hx := Bd.exec
  have hby := Bd.bytes
  have hml : c.maxLocals = 3 := hml0
  have hown : s.vm.findClass "com/example/referee/referee/logic/stream/StreamType" = some m.cls := findClass_of_methodNamed Bd.named
  have hnm := (name_of_methodNamed Bd.named Bd.method).1
  have hlk : meth.locks = false := BodyLoose.notSynchronized Bd
  have hret := Bd.returns
  have X0 : Stand p l e ({ frames := 0, cells := 0, slots := 0, locals := 0 } : Room) s m #[(.ref a), (.long v1)] below meth c s₁ [] 0 0 := Stand.of_body Bd
  have e0 : s₁.heap = h0 := by rw [← hh, Bd.state]; rfl
  have N0 := Fr.nil n0
  show own_E p e below (own_K s (own_Qho Z a v1 an h0 n0) ({ frames := 0, cells := 0, slots := 0, locals := 0 } : Room).cells ({ frames := 0, cells := 0, slots := 0, locals := 0 } : Room).slots) s₁ (entryFrame m #[(.ref a), (.long v1)] 3)
  refine own_S (mkF m 0 #[rv a, .val (.long v1), .second] []) (fun _ k => castTop (own_ef_ho m (a) (v1)) k) ?_
  refine own_S (mkF m 1 #[rv a, .val (.long v1), .second] [(.ref a)]) (fun _ k => XS.aloadN X0.here hx rfl (hb hby d1_0) rfl rfl k) ?_
  obtain ⟨T1, X1, e1, st1⟩ := getS (host := "") X0 hx hZ hown (own_g hw (i := 8) rfl) Via.refl e0 P0 (g := (mkF m 1 #[rv a, .val (.long v1), .second] [(.ref a)])) rfl (hb hby d1_1)
  refine own_S (mkF m 4 #[rv a, .val (.long v1), .second] [(.ref an), (.ref a)]) st1 ?_
  by_cases h1 : a = an
  · -- a = an
    refine own_S (mkF m 19 #[rv a, .val (.long v1), .second] []) (fun _ k => acmp X1 hx rfl rfl rfl (pc0 := 4) (pc' := 19) (same := true) rfl (hb hby d1_4) rfl (by simp [h1]) (by decide) (by decide) k) ?_
    refine own_S (mkF m 20 #[rv a, .val (.long v1), .second] [(.int 1)]) (fun _ k => XS.iconst X1.here hx rfl (hb hby d1_19) k) ?_
    refine own_S (mkF m 24 #[rv a, .val (.long v1), .second] [(.int 1)]) (fun _ k => XS.goto X1.here hx rfl (pc0 := 20) (pc' := 24) rfl (hb hby d1_20) (by decide) (by decide) k) ?_
    exact own_retN X1 hx hlk (t := .boolean) hret (by simp) (hb hby d1_24) (by rw [e1]; exact ⟨(by rw [if_pos (Or.inl h1)]; rfl), N0, rfl⟩) (by decide) (by decide)
  · -- not a = an
    refine own_S (mkF m 7 #[rv a, .val (.long v1), .second] []) (fun _ k => acmp X1 hx rfl rfl rfl (pc0 := 4) (pc' := 7) (same := false) rfl (hb hby d1_4) rfl (by simp [h1]) (by decide) (by decide) k) ?_
    refine own_S (mkF m 8 #[rv a, .val (.long v1), .second] [(.long v1)]) (fun _ k => XS.lloadN X1.here hx rfl (hb hby d1_7) rfl k) ?_
    refine own_S (mkF m 9 #[rv a, .val (.long v1), .second] [(.long 0), (.long v1)]) (fun _ k => XS.lconst X1.here hx rfl (hb hby d1_8) k) ?_
    refine own_S (mkF m 10 #[rv a, .val (.long v1), .second] [(.int (lcmpW v1 (0 : Int64)))]) (fun _ k => XS.lcmp X1.here hx rfl (hb hby d1_9) rfl k) ?_
    by_cases h2 : v1 = (0 : Int64)
    · -- v1 = (0 : Int64)
      refine own_S (mkF m 19 #[rv a, .val (.long v1), .second] []) (fun _ k => XS.ifYes X1.here hx rfl (pc0 := 10) (pc' := 19) rfl (hb hby d1_10) rfl ((if0 _ _).trans (teq ((lw_eq v1 (0 : Int64)).mpr h2)).1) (by decide) (by decide) k) ?_
      refine own_S (mkF m 20 #[rv a, .val (.long v1), .second] [(.int 1)]) (fun _ k => XS.iconst X1.here hx rfl (hb hby d1_19) k) ?_
      refine own_S (mkF m 24 #[rv a, .val (.long v1), .second] [(.int 1)]) (fun _ k => XS.goto X1.here hx rfl (pc0 := 20) (pc' := 24) rfl (hb hby d1_20) (by decide) (by decide) k) ?_
      exact own_retN X1 hx hlk (t := .boolean) hret (by simp) (hb hby d1_24) (by rw [e1]; exact ⟨(by rw [if_pos (Or.inr (Or.inl h2))]; rfl), N0, rfl⟩) (by decide) (by decide)
    · -- not v1 = (0 : Int64)
      refine own_S (mkF m 13 #[rv a, .val (.long v1), .second] []) (fun _ k => XS.ifNo X1.here hx rfl (hb hby d1_10) rfl ((if0 _ _).trans (feq (fun q => h2 ((lw_eq v1 (0 : Int64)).mp q))).1) k) ?_
      refine own_S (mkF m 14 #[rv a, .val (.long v1), .second] [(.long v1)]) (fun _ k => XS.lloadN X1.here hx rfl (hb hby d1_13) rfl k) ?_
      refine own_S (mkF m 15 #[rv a, .val (.long v1), .second] [(.long 1), (.long v1)]) (fun _ k => XS.lconst X1.here hx rfl (hb hby d1_14) k) ?_
      refine own_S (mkF m 16 #[rv a, .val (.long v1), .second] [(.int (lcmpW v1 (1 : Int64)))]) (fun _ k => XS.lcmp X1.here hx rfl (hb hby d1_15) rfl k) ?_
      by_cases h3 : v1 = (1 : Int64)
      · -- v1 = (1 : Int64)
        refine own_S (mkF m 19 #[rv a, .val (.long v1), .second] []) (fun _ k => XS.ifNo X1.here hx rfl (hb hby d1_16) rfl ((if0 _ _).trans (teq ((lw_eq v1 (1 : Int64)).mpr h3)).2) k) ?_
        refine own_S (mkF m 20 #[rv a, .val (.long v1), .second] [(.int 1)]) (fun _ k => XS.iconst X1.here hx rfl (hb hby d1_19) k) ?_
        refine own_S (mkF m 24 #[rv a, .val (.long v1), .second] [(.int 1)]) (fun _ k => XS.goto X1.here hx rfl (pc0 := 20) (pc' := 24) rfl (hb hby d1_20) (by decide) (by decide) k) ?_
        exact own_retN X1 hx hlk (t := .boolean) hret (by simp) (hb hby d1_24) (by rw [e1]; exact ⟨(by rw [if_pos (Or.inr (Or.inr h3))]; rfl), N0, rfl⟩) (by decide) (by decide)
      · -- not v1 = (1 : Int64)
        refine own_S (mkF m 23 #[rv a, .val (.long v1), .second] []) (fun _ k => XS.ifYes X1.here hx rfl (pc0 := 16) (pc' := 23) rfl (hb hby d1_16) rfl ((if0 _ _).trans (feq (fun q => h3 ((lw_eq v1 (1 : Int64)).mp q))).2) (by decide) (by decide) k) ?_
        refine own_S (mkF m 24 #[rv a, .val (.long v1), .second] [(.int 0)]) (fun _ k => XS.iconst X1.here hx rfl (hb hby d1_23) k) ?_
        exact own_retN X1 hx hlk (t := .boolean) hret (by simp) (hb hby d1_24) (by rw [e1]; exact ⟨(by rw [if_neg (fun q => q.elim h1 (fun q => q.elim h2 h3))]; rfl), N0, rfl⟩) (by decide) (by decide)
theorem own_pd__J_Z : parseMethodDescriptor "(J)Z" = some ⟨[.long], (some .boolean)⟩ := by decide +kernel
theorem own_pn_com_example_referee_referee_logic_stream_StreamTypeHoldsPinLaw : plainName "com/example/referee/referee/logic/stream/StreamTypeHoldsPinLaw" = true := by first | (simp [plainName, overriddenIn]; done) | decide +kernel
theorem own_ef_law (m : MethodId) (y0 : Int64) (y1 : Int32) : entryFrame m #[(.long y0), (.int y1)] maxLocals = mkF m 0 #[.val (.long y0), .second, iv y1, .unset, .unset, .unset, .unset, .unset] [] := by first | (simp [entryFrame, mkF, argsToLocals, Value.category, maxLocals]; done) | rfl
def own_Qlaw (Z : State) (v0 : Int64) (sl : Int32) (an : Addr) (ab : Addr) (h0 : Heap) (n0 : Nat) (v : Option Value) (h : Heap) (L : List Loc) : Prop := v = some (.int 1) ∧ Fr n0 L ∧ True
set_option maxRecDepth 65536 in
set_option maxHeartbeats 40000000 in
theorem own_rmlaw (l : Launch) (Z : State) (a0 : Array Value) (hw : ∀ d ∈ tables_1, d.before a0 Z = true) (ws : List Jvm.Cond) (v0 : Int64) (sl : Int32) (an : Addr) (ab : Addr) (h0 : Heap) (n0 : Nat) (Z0 : n0 ≤ h0.size) (P0 : Sta Z h0 "com/example/referee/referee/logic/stream/StreamType" "NUM" "Lcom/example/referee/referee/logic/stream/StreamType;" (.ref an)) (P1 : Sta Z h0 "com/example/referee/referee/logic/stream/StreamType" "BOOL" "Lcom/example/referee/referee/logic/stream/StreamType;" (.ref ab)) (P2 : Exa Z h0 an "com/example/referee/referee/logic/stream/StreamType") (P3 : Exa Z h0 ab "com/example/referee/referee/logic/stream/StreamType") (NE_ab_an : ab ≠ an) :
    MetFree l x (head1 (Jvm.Cond.code x code maxLocals ret :: ws) room_1) (fun az Uz => az = #[(.long v0), (.int sl)] ∧ Z.Warmed39 Uz.vm ∧ Uz.heap = h0) (fun _ _ _ _ _ => True) (fun _ U o U' => ∃ v L, o = .returned v ∧ own_Qlaw Z v0 sl an ab h0 n0 v U'.heap L ∧ FrameEnd U o U' L room_1.cells room_1.slots) := by
  refine MetFree.of_bodySF (plainFor_of_name own_pn_com_example_referee_referee_logic_stream_StreamTypeHoldsPinLaw) hisR ?_
  intro p e s m args below meth c s₁ Bd hml0 hP hK
  obtain ⟨rfl, hZ, hh⟩ := hP
  have hx := Bd.exec
  have hby := Bd.bytes
  have hml : c.maxLocals = 8 := hml0
  have hown : s.vm.findClass "com/example/referee/referee/logic/stream/StreamTypeHoldsPinLaw" = some m.cls := findClass_of_methodNamed Bd.named
  have hnm := (name_of_methodNamed Bd.named Bd.method).1
  have hlk : meth.locks = false := BodyLoose.notSynchronized Bd
  have hret := Bd.returns
  have X0 : Stand p l e room_1 s m #[(.long v0), (.int sl)] below meth c s₁ [] 0 0 := Stand.of_body Bd
  have e0 : s₁.heap = h0 := by rw [← hh, Bd.state]; rfl
  have N0 := Fr.nil n0
  show own_E p e below (own_K s (own_Qlaw Z v0 sl an ab h0 n0) room_1.cells room_1.slots) s₁ (entryFrame m #[(.long v0), (.int sl)] maxLocals)
  refine own_S (mkF m 0 #[.val (.long v0), .second, iv sl, .unset, .unset, .unset, .unset, .unset] []) (fun _ k => castTop (own_ef_law m (v0) (sl)) k) ?_
  refine own_S (mkF m 1 #[.val (.long v0), .second, iv sl, .unset, .unset, .unset, .unset, .unset] [(.int sl)]) (fun _ k => XS.iloadN X0.here hx rfl (hb hby at_0) rfl k) ?_
  refine own_S (mkF m 2 #[.val (.long v0), .second, iv sl, .unset, .unset, .unset, .unset, .unset] [(.int 1), (.int sl)]) (fun _ k => XS.iconst X0.here hx rfl (hb hby at_1) k) ?_
  refine own_S (mkF m 3 #[.val (.long v0), .second, iv sl, .unset, .unset, .unset, .unset, .unset] [(.int (sl &&& (1 : Int32)))]) (fun _ k => XS.iand X0.here hx rfl (hb hby at_2) rfl k) ?_
  obtain ⟨nm, h_nm⟩ : ∃ z : Int32, z = (if (sl &&& (1 : Int32)) = (0 : Int32) then (0 : Int32) else (1 : Int32)) := ⟨_, rfl⟩
  refine own_S (T' := s₁) (mkF m 11 #[.val (.long v0), .second, iv sl, .unset, .unset, .unset, .unset, .unset] [(.int nm)]) (fun _ k => ?_) ?_
  ·
    by_cases hj1 : (sl &&& (1 : Int32)) = (0 : Int32)
    ·
      refine own_s (mkF m 10 #[.val (.long v0), .second, iv sl, .unset, .unset, .unset, .unset, .unset] []) (fun _ k => XS.ifYes X0.here hx rfl (pc0 := 3) (pc' := 10) rfl (hb hby at_3) rfl ((if0 _ _).trans (teq hj1).1) (by decide) (by decide) k) ?_
      refine own_s (mkF m 11 #[.val (.long v0), .second, iv sl, .unset, .unset, .unset, .unset, .unset] [(.int 0)]) (fun _ k => XS.iconst X0.here hx rfl (hb hby at_10) k) ?_
      rw [show nm = (0 : Int32) from by rw [h_nm, if_pos hj1]] at k
      exact k
    ·
      refine own_s (mkF m 6 #[.val (.long v0), .second, iv sl, .unset, .unset, .unset, .unset, .unset] []) (fun _ k => XS.ifNo X0.here hx rfl (hb hby at_3) rfl ((if0 _ _).trans (feq hj1).1) k) ?_
      refine own_s (mkF m 7 #[.val (.long v0), .second, iv sl, .unset, .unset, .unset, .unset, .unset] [(.int 1)]) (fun _ k => XS.iconst X0.here hx rfl (hb hby at_6) k) ?_
      refine own_s (mkF m 11 #[.val (.long v0), .second, iv sl, .unset, .unset, .unset, .unset, .unset] [(.int 1)]) (fun _ k => XS.goto X0.here hx rfl (pc0 := 7) (pc' := 11) rfl (hb hby at_7) (by decide) (by decide) k) ?_
      rw [show nm = (1 : Int32) from by rw [h_nm, if_neg hj1]] at k
      exact k
  refine own_S (mkF m 12 #[.val (.long v0), .second, iv sl, iv nm, .unset, .unset, .unset, .unset] []) (fun _ k => XS.istoreN X0.here hx rfl (hb hby at_11) rfl (l' := #[.val (.long v0), .second, iv sl, iv nm, .unset, .unset, .unset, .unset]) rfl k) ?_
  refine own_S (mkF m 13 #[.val (.long v0), .second, iv sl, iv nm, .unset, .unset, .unset, .unset] [(.int sl)]) (fun _ k => XS.iloadN X0.here hx rfl (hb hby at_12) rfl k) ?_
  refine own_S (mkF m 14 #[.val (.long v0), .second, iv sl, iv nm, .unset, .unset, .unset, .unset] [(.int 2), (.int sl)]) (fun _ k => XS.iconst X0.here hx rfl (hb hby at_13) k) ?_
  refine own_S (mkF m 15 #[.val (.long v0), .second, iv sl, iv nm, .unset, .unset, .unset, .unset] [(.int (sl &&& (2 : Int32)))]) (fun _ k => XS.iand X0.here hx rfl (hb hby at_14) rfl k) ?_
  obtain ⟨vv, h_vv⟩ : ∃ z : Int64, z = (if (sl &&& (2 : Int32)) = (0 : Int32) then (((((sl >>> ((2 : Int32) &&& 31)) &&& (3 : Int32)) - (1 : Int32))).toInt64) else v0) := ⟨_, rfl⟩
  refine own_S (T' := s₁) (mkF m 30 #[.val (.long v0), .second, iv sl, iv nm, .unset, .unset, .unset, .unset] [(.long vv)]) (fun _ k => ?_) ?_
  ·
    by_cases hj2 : (sl &&& (2 : Int32)) = (0 : Int32)
    ·
      refine own_s (mkF m 22 #[.val (.long v0), .second, iv sl, iv nm, .unset, .unset, .unset, .unset] []) (fun _ k => XS.ifYes X0.here hx rfl (pc0 := 15) (pc' := 22) rfl (hb hby at_15) rfl ((if0 _ _).trans (teq hj2).1) (by decide) (by decide) k) ?_
      refine own_s (mkF m 23 #[.val (.long v0), .second, iv sl, iv nm, .unset, .unset, .unset, .unset] [(.int sl)]) (fun _ k => XS.iloadN X0.here hx rfl (hb hby at_22) rfl k) ?_
      refine own_s (mkF m 24 #[.val (.long v0), .second, iv sl, iv nm, .unset, .unset, .unset, .unset] [(.int 2), (.int sl)]) (fun _ k => XS.iconst X0.here hx rfl (hb hby at_23) k) ?_
      refine own_s (mkF m 25 #[.val (.long v0), .second, iv sl, iv nm, .unset, .unset, .unset, .unset] [(.int (sl >>> ((2 : Int32) &&& 31)))]) (fun _ k => XS.ishr X0.here hx rfl (hb hby at_24) rfl k) ?_
      refine own_s (mkF m 26 #[.val (.long v0), .second, iv sl, iv nm, .unset, .unset, .unset, .unset] [(.int 3), (.int (sl >>> ((2 : Int32) &&& 31)))]) (fun _ k => XS.iconst X0.here hx rfl (hb hby at_25) k) ?_
      refine own_s (mkF m 27 #[.val (.long v0), .second, iv sl, iv nm, .unset, .unset, .unset, .unset] [(.int ((sl >>> ((2 : Int32) &&& 31)) &&& (3 : Int32)))]) (fun _ k => XS.iand X0.here hx rfl (hb hby at_26) rfl k) ?_
      refine own_s (mkF m 28 #[.val (.long v0), .second, iv sl, iv nm, .unset, .unset, .unset, .unset] [(.int 1), (.int ((sl >>> ((2 : Int32) &&& 31)) &&& (3 : Int32)))]) (fun _ k => XS.iconst X0.here hx rfl (hb hby at_27) k) ?_
      refine own_s (mkF m 29 #[.val (.long v0), .second, iv sl, iv nm, .unset, .unset, .unset, .unset] [(.int (((sl >>> ((2 : Int32) &&& 31)) &&& (3 : Int32)) - (1 : Int32)))]) (fun _ k => XS.isub X0.here hx rfl (hb hby at_28) rfl k) ?_
      refine own_s (mkF m 30 #[.val (.long v0), .second, iv sl, iv nm, .unset, .unset, .unset, .unset] [(.long (((((sl >>> ((2 : Int32) &&& 31)) &&& (3 : Int32)) - (1 : Int32))).toInt64))]) (fun _ k => XS.i2l X0.here hx rfl (hb hby at_29) rfl k) ?_
      rw [show vv = (((((sl >>> ((2 : Int32) &&& 31)) &&& (3 : Int32)) - (1 : Int32))).toInt64) from by rw [h_vv, if_pos hj2]] at k
      exact k
    ·
      refine own_s (mkF m 18 #[.val (.long v0), .second, iv sl, iv nm, .unset, .unset, .unset, .unset] []) (fun _ k => XS.ifNo X0.here hx rfl (hb hby at_15) rfl ((if0 _ _).trans (feq hj2).1) k) ?_
      refine own_s (mkF m 19 #[.val (.long v0), .second, iv sl, iv nm, .unset, .unset, .unset, .unset] [(.long v0)]) (fun _ k => XS.lloadN X0.here hx rfl (hb hby at_18) rfl k) ?_
      refine own_s (mkF m 30 #[.val (.long v0), .second, iv sl, iv nm, .unset, .unset, .unset, .unset] [(.long v0)]) (fun _ k => XS.goto X0.here hx rfl (pc0 := 19) (pc' := 30) rfl (hb hby at_19) (by decide) (by decide) k) ?_
      rw [show vv = v0 from by rw [h_vv, if_neg hj2]] at k
      exact k
  refine own_S (mkF m 32 #[.val (.long v0), .second, iv sl, iv nm, .val (.long vv), .second, .unset, .unset] []) (fun _ k => XS.lstore X0.here hx rfl (hb hby at_30) rfl (l' := #[.val (.long v0), .second, iv sl, iv nm, .val (.long vv), .second, .unset, .unset]) rfl k) ?_
  refine own_S (mkF m 33 #[.val (.long v0), .second, iv sl, iv nm, .val (.long vv), .second, .unset, .unset] [(.int nm)]) (fun _ k => XS.iloadN X0.here hx rfl (hb hby at_32) rfl k) ?_
  by_cases hn0 : nm = (0 : Int32)
  · -- nm = (0 : Int32)
    refine own_S (mkF m 42 #[.val (.long v0), .second, iv sl, iv nm, .val (.long vv), .second, .unset, .unset] []) (fun _ k => XS.ifYes X0.here hx rfl (pc0 := 33) (pc' := 42) rfl (hb hby at_33) rfl ((if0 _ _).trans (teq hn0).1) (by decide) (by decide) k) ?_
    obtain ⟨T3, X3, e3, st3⟩ := getS (host := "") X0 hx hZ hown (own_g hw (i := 0) rfl) Via.refl e0 P1 (g := (mkF m 42 #[.val (.long v0), .second, iv sl, iv nm, .val (.long vv), .second, .unset, .unset] [])) rfl (hb hby at_42)
    refine own_S (mkF m 45 #[.val (.long v0), .second, iv sl, iv nm, .val (.long vv), .second, .unset, .unset] [(.ref ab)]) st3 ?_
    refine own_S (mkF m 47 #[.val (.long v0), .second, iv sl, iv nm, .val (.long vv), .second, rv ab, .unset] []) (fun _ k => XS.astore X3.here hx rfl (hb hby at_45) rfl rfl (l' := #[.val (.long v0), .second, iv sl, iv nm, .val (.long vv), .second, rv ab, .unset]) rfl k) ?_
    refine own_S (mkF m 48 #[.val (.long v0), .second, iv sl, iv nm, .val (.long vv), .second, rv ab, .unset] [(.int nm)]) (fun _ k => XS.iloadN X3.here hx rfl (hb hby at_47) rfl k) ?_
    have hc4 : nm = (0 : Int32) := hn0
    refine own_S (mkF m 57 #[.val (.long v0), .second, iv sl, iv nm, .val (.long vv), .second, rv ab, .unset] []) (fun _ k => XS.ifYes X3.here hx rfl (pc0 := 48) (pc' := 57) rfl (hb hby at_48) rfl ((if0 _ _).trans (teq hc4).1) (by decide) (by decide) k) ?_
    refine own_S (mkF m 59 #[.val (.long v0), .second, iv sl, iv nm, .val (.long vv), .second, rv ab, .unset] [(.long vv)]) (fun _ k => XS.lload X3.here hx rfl (hb hby at_57) rfl k) ?_
    refine own_S (mkF m 60 #[.val (.long v0), .second, iv sl, iv nm, .val (.long vv), .second, rv ab, .unset] [(.int 1), (.long vv)]) (fun _ k => XS.iconst X3.here hx rfl (hb hby at_59) k) ?_
    refine own_S (mkF m 61 #[.val (.long v0), .second, iv sl, iv nm, .val (.long vv), .second, rv ab, .unset] [(.long ((vv).toUInt64 >>> ((1 : Int32) &&& 0x3f).toInt64.toUInt64).toInt64)]) (fun _ k => XS.lushr X3.here hx rfl (hb hby at_60) rfl k) ?_
    refine own_S (mkF m 62 #[.val (.long v0), .second, iv sl, iv nm, .val (.long vv), .second, rv ab, .unset] [(.long 0), (.long ((vv).toUInt64 >>> ((1 : Int32) &&& 0x3f).toInt64.toUInt64).toInt64)]) (fun _ k => XS.lconst X3.here hx rfl (hb hby at_61) k) ?_
    refine own_S (mkF m 63 #[.val (.long v0), .second, iv sl, iv nm, .val (.long vv), .second, rv ab, .unset] [(.int (lcmpW ((vv).toUInt64 >>> ((1 : Int32) &&& 0x3f).toInt64.toUInt64).toInt64 (0 : Int64)))]) (fun _ k => XS.lcmp X3.here hx rfl (hb hby at_62) rfl k) ?_
    obtain ⟨xx, h_xx⟩ : ∃ z : Int32, z = (if ((vv).toUInt64 >>> ((1 : Int32) &&& 0x3f).toInt64.toUInt64).toInt64 = (0 : Int64) then (1 : Int32) else (0 : Int32)) := ⟨_, rfl⟩
    refine own_S (T' := T3) (mkF m 71 #[.val (.long v0), .second, iv sl, iv nm, .val (.long vv), .second, rv ab, .unset] [(.int xx)]) (fun _ k => ?_) ?_
    ·
      by_cases hj5 : ((vv).toUInt64 >>> ((1 : Int32) &&& 0x3f).toInt64.toUInt64).toInt64 = (0 : Int64)
      ·
        refine own_s (mkF m 66 #[.val (.long v0), .second, iv sl, iv nm, .val (.long vv), .second, rv ab, .unset] []) (fun _ k => XS.ifNo X3.here hx rfl (hb hby at_63) rfl ((if0 _ _).trans (teq ((lw_eq ((vv).toUInt64 >>> ((1 : Int32) &&& 0x3f).toInt64.toUInt64).toInt64 (0 : Int64)).mpr hj5)).2) k) ?_
        refine own_s (mkF m 67 #[.val (.long v0), .second, iv sl, iv nm, .val (.long vv), .second, rv ab, .unset] [(.int 1)]) (fun _ k => XS.iconst X3.here hx rfl (hb hby at_66) k) ?_
        refine own_s (mkF m 71 #[.val (.long v0), .second, iv sl, iv nm, .val (.long vv), .second, rv ab, .unset] [(.int 1)]) (fun _ k => XS.goto X3.here hx rfl (pc0 := 67) (pc' := 71) rfl (hb hby at_67) (by decide) (by decide) k) ?_
        rw [show xx = (1 : Int32) from by rw [h_xx, if_pos hj5]] at k
        exact k
      ·
        refine own_s (mkF m 70 #[.val (.long v0), .second, iv sl, iv nm, .val (.long vv), .second, rv ab, .unset] []) (fun _ k => XS.ifYes X3.here hx rfl (pc0 := 63) (pc' := 70) rfl (hb hby at_63) rfl ((if0 _ _).trans (feq (fun q => hj5 ((lw_eq ((vv).toUInt64 >>> ((1 : Int32) &&& 0x3f).toInt64.toUInt64).toInt64 (0 : Int64)).mp q))).2) (by decide) (by decide) k) ?_
        refine own_s (mkF m 71 #[.val (.long v0), .second, iv sl, iv nm, .val (.long vv), .second, rv ab, .unset] [(.int 0)]) (fun _ k => XS.iconst X3.here hx rfl (hb hby at_70) k) ?_
        rw [show xx = (0 : Int32) from by rw [h_xx, if_neg hj5]] at k
        exact k
    refine own_S (mkF m 73 #[.val (.long v0), .second, iv sl, iv nm, .val (.long vv), .second, rv ab, iv xx] []) (fun _ k => XS.istore X3.here hx rfl (hb hby at_71) rfl (l' := #[.val (.long v0), .second, iv sl, iv nm, .val (.long vv), .second, rv ab, iv xx]) rfl k) ?_
    refine own_S (mkF m 75 #[.val (.long v0), .second, iv sl, iv nm, .val (.long vv), .second, rv ab, iv xx] [(.ref ab)]) (fun _ k => XS.aload X3.here hx rfl (hb hby at_73) rfl rfl k) ?_
    refine own_S (mkF m 77 #[.val (.long v0), .second, iv sl, iv nm, .val (.long vv), .second, rv ab, iv xx] [(.long vv), (.ref ab)]) (fun _ k => XS.lload X3.here hx rfl (hb hby at_75) rfl k) ?_
    obtain ⟨cq6, kq6, q6a, q6b, q6c⟩ := isOf hZ e3 P3
    obtain ⟨_, _, ⟨T6, L6, k6, n6⟩, -, X6, ⟨Lc6, hQ6, l6, y6, z6⟩, st6⟩ := X3.virtualBack hx (y := own_y0) (z := own_y0) hown (mvT hZ (own_g hw (i := 3) rfl)) (mvT hZ (own_g hw (i := 4) rfl)) (notFace_of_selects (args := #[]) (mvT hZ (own_g hw (i := 6) rfl))) (mvT hZ (own_g hw (i := 6) rfl)) (mvT hZ (own_g hw (i := 5) rfl)) (by decide) (backOf (W := 0) (own_rmho l Z a0 hw [] (ab) (vv) (an) h0 n0 Z0 P0) hZ (own_g hw (i := 7) rfl) (own_g hw (i := 1) rfl) (by decide) (by decide)) q6a q6c (g := (mkF m 77 #[.val (.long v0), .second, iv sl, iv nm, .val (.long vv), .second, rv ab, iv xx] [(.long vv), (.ref ab)])) rfl (by rw [hml]; rfl) (Steps.refl _) (argsL := [(.long vv)]) (rest := []) (lenOf own_pd__J_Z rfl) rfl (by show 2 * 0 + _ ≤ _; exact Nat.le_of_eq rfl) (hb hby at_77) (fun _ _ => ⟨rfl, e3, (by decide : 0 + 0 ≤ _), (by decide : 0 + 0 ≤ _)⟩)
    dsimp only [Pt.U, Pt.locs, Pt.cells, Pt.slots] at X6 l6 y6 z6 st6 hQ6
    subst l6 y6 z6
    obtain ⟨rfl, N6q, e6⟩ := hQ6
    have N6 := Fr.app N0 N6q
    refine own_S (mkF m 80 #[.val (.long v0), .second, iv sl, iv nm, .val (.long vv), .second, rv ab, iv xx] [(.int (if ab = an ∨ vv = (0 : Int64) ∨ vv = (1 : Int64) then (1 : Int32) else (0 : Int32)))]) (fun _ k => st6.trans k) ?_
    refine own_S (mkF m 82 #[.val (.long v0), .second, iv sl, iv nm, .val (.long vv), .second, rv ab, iv xx] [(.int xx), (.int (if ab = an ∨ vv = (0 : Int64) ∨ vv = (1 : Int64) then (1 : Int32) else (0 : Int32)))]) (fun _ k => XS.iload X6.here hx rfl (hb hby at_80) rfl k) ?_
    have hc7 : (if ab = an ∨ vv = (0 : Int64) ∨ vv = (1 : Int64) then (1 : Int32) else (0 : Int32)) = xx := (by rw [h_xx]; exact own_law1 NE_ab_an vv)
    refine own_S (mkF m 85 #[.val (.long v0), .second, iv sl, iv nm, .val (.long vv), .second, rv ab, iv xx] []) (fun _ k => XS.icmpNo X6.here hx rfl (hb hby at_82) rfl (teq hc7).2 k) ?_
    refine own_S (mkF m 86 #[.val (.long v0), .second, iv sl, iv nm, .val (.long vv), .second, rv ab, iv xx] [(.int 1)]) (fun _ k => XS.iconst X6.here hx rfl (hb hby at_85) k) ?_
    refine own_S (mkF m 90 #[.val (.long v0), .second, iv sl, iv nm, .val (.long vv), .second, rv ab, iv xx] [(.int 1)]) (fun _ k => XS.goto X6.here hx rfl (pc0 := 86) (pc' := 90) rfl (hb hby at_86) (by decide) (by decide) k) ?_
    exact own_retN X6 hx hlk (t := .boolean) hret (by simp) (hb hby at_90) (by rw [e6]; exact ⟨rfl, N6, trivial⟩) (by decide) (by decide)
  · -- not nm = (0 : Int32)
    refine own_S (mkF m 36 #[.val (.long v0), .second, iv sl, iv nm, .val (.long vv), .second, .unset, .unset] []) (fun _ k => XS.ifNo X0.here hx rfl (hb hby at_33) rfl ((if0 _ _).trans (feq hn0).1) k) ?_
    obtain ⟨T8, X8, e8, st8⟩ := getS (host := "") X0 hx hZ hown (own_g hw (i := 10) rfl) Via.refl e0 P0 (g := (mkF m 36 #[.val (.long v0), .second, iv sl, iv nm, .val (.long vv), .second, .unset, .unset] [])) rfl (hb hby at_36)
    refine own_S (mkF m 39 #[.val (.long v0), .second, iv sl, iv nm, .val (.long vv), .second, .unset, .unset] [(.ref an)]) st8 ?_
    refine own_S (mkF m 45 #[.val (.long v0), .second, iv sl, iv nm, .val (.long vv), .second, .unset, .unset] [(.ref an)]) (fun _ k => XS.goto X8.here hx rfl (pc0 := 39) (pc' := 45) rfl (hb hby at_39) (by decide) (by decide) k) ?_
    refine own_S (mkF m 47 #[.val (.long v0), .second, iv sl, iv nm, .val (.long vv), .second, rv an, .unset] []) (fun _ k => XS.astore X8.here hx rfl (hb hby at_45) rfl rfl (l' := #[.val (.long v0), .second, iv sl, iv nm, .val (.long vv), .second, rv an, .unset]) rfl k) ?_
    refine own_S (mkF m 48 #[.val (.long v0), .second, iv sl, iv nm, .val (.long vv), .second, rv an, .unset] [(.int nm)]) (fun _ k => XS.iloadN X8.here hx rfl (hb hby at_47) rfl k) ?_
    have hc9 : ¬ (nm = (0 : Int32)) := hn0
    refine own_S (mkF m 51 #[.val (.long v0), .second, iv sl, iv nm, .val (.long vv), .second, rv an, .unset] []) (fun _ k => XS.ifNo X8.here hx rfl (hb hby at_48) rfl ((if0 _ _).trans (feq hc9).1) k) ?_
    refine own_S (mkF m 52 #[.val (.long v0), .second, iv sl, iv nm, .val (.long vv), .second, rv an, .unset] [(.int 1)]) (fun _ k => XS.iconst X8.here hx rfl (hb hby at_51) k) ?_
    refine own_S (mkF m 54 #[.val (.long v0), .second, iv sl, iv nm, .val (.long vv), .second, rv an, .val (.int 1)] []) (fun _ k => XS.istore X8.here hx rfl (hb hby at_52) rfl (l' := #[.val (.long v0), .second, iv sl, iv nm, .val (.long vv), .second, rv an, .val (.int 1)]) rfl k) ?_
    refine own_S (mkF m 73 #[.val (.long v0), .second, iv sl, iv nm, .val (.long vv), .second, rv an, .val (.int 1)] []) (fun _ k => XS.goto X8.here hx rfl (pc0 := 54) (pc' := 73) rfl (hb hby at_54) (by decide) (by decide) k) ?_
    refine own_S (mkF m 75 #[.val (.long v0), .second, iv sl, iv nm, .val (.long vv), .second, rv an, .val (.int 1)] [(.ref an)]) (fun _ k => XS.aload X8.here hx rfl (hb hby at_73) rfl rfl k) ?_
    refine own_S (mkF m 77 #[.val (.long v0), .second, iv sl, iv nm, .val (.long vv), .second, rv an, .val (.int 1)] [(.long vv), (.ref an)]) (fun _ k => XS.lload X8.here hx rfl (hb hby at_75) rfl k) ?_
    obtain ⟨cq10, kq10, q10a, q10b, q10c⟩ := isOf hZ e8 P2
    obtain ⟨_, _, ⟨T10, L10, k10, n10⟩, -, X10, ⟨Lc10, hQ10, l10, y10, z10⟩, st10⟩ := X8.virtualBack hx (y := own_y0) (z := own_y0) hown (mvT hZ (own_g hw (i := 3) rfl)) (mvT hZ (own_g hw (i := 4) rfl)) (notFace_of_selects (args := #[]) (mvT hZ (own_g hw (i := 6) rfl))) (mvT hZ (own_g hw (i := 6) rfl)) (mvT hZ (own_g hw (i := 5) rfl)) (by decide) (backOf (W := 0) (own_rmho l Z a0 hw [] (an) (vv) (an) h0 n0 Z0 P0) hZ (own_g hw (i := 7) rfl) (own_g hw (i := 1) rfl) (by decide) (by decide)) q10a q10c (g := (mkF m 77 #[.val (.long v0), .second, iv sl, iv nm, .val (.long vv), .second, rv an, .val (.int 1)] [(.long vv), (.ref an)])) rfl (by rw [hml]; rfl) (Steps.refl _) (argsL := [(.long vv)]) (rest := []) (lenOf own_pd__J_Z rfl) rfl (by show 2 * 0 + _ ≤ _; exact Nat.le_of_eq rfl) (hb hby at_77) (fun _ _ => ⟨rfl, e8, (by decide : 0 + 0 ≤ _), (by decide : 0 + 0 ≤ _)⟩)
    dsimp only [Pt.U, Pt.locs, Pt.cells, Pt.slots] at X10 l10 y10 z10 st10 hQ10
    subst l10 y10 z10
    obtain ⟨rfl, N10q, e10⟩ := hQ10
    have N10 := Fr.app N0 N10q
    refine own_S (mkF m 80 #[.val (.long v0), .second, iv sl, iv nm, .val (.long vv), .second, rv an, .val (.int 1)] [(.int (if an = an ∨ vv = (0 : Int64) ∨ vv = (1 : Int64) then (1 : Int32) else (0 : Int32)))]) (fun _ k => st10.trans k) ?_
    refine own_S (mkF m 82 #[.val (.long v0), .second, iv sl, iv nm, .val (.long vv), .second, rv an, .val (.int 1)] [(.int 1), (.int (if an = an ∨ vv = (0 : Int64) ∨ vv = (1 : Int64) then (1 : Int32) else (0 : Int32)))]) (fun _ k => XS.iload X10.here hx rfl (hb hby at_80) rfl k) ?_
    have hc11 : (if an = an ∨ vv = (0 : Int64) ∨ vv = (1 : Int64) then (1 : Int32) else (0 : Int32)) = (1 : Int32) := (by rw [if_pos (Or.inl rfl)])
    refine own_S (mkF m 85 #[.val (.long v0), .second, iv sl, iv nm, .val (.long vv), .second, rv an, .val (.int 1)] []) (fun _ k => XS.icmpNo X10.here hx rfl (hb hby at_82) rfl (teq hc11).2 k) ?_
    refine own_S (mkF m 86 #[.val (.long v0), .second, iv sl, iv nm, .val (.long vv), .second, rv an, .val (.int 1)] [(.int 1)]) (fun _ k => XS.iconst X10.here hx rfl (hb hby at_85) k) ?_
    refine own_S (mkF m 90 #[.val (.long v0), .second, iv sl, iv nm, .val (.long vv), .second, rv an, .val (.int 1)] [(.int 1)]) (fun _ k => XS.goto X10.here hx rfl (pc0 := 86) (pc' := 90) rfl (hb hby at_86) (by decide) (by decide) k) ?_
    exact own_retN X10 hx hlk (t := .boolean) hret (by simp) (hb hby at_90) (by rw [e10]; exact ⟨rfl, N10, trivial⟩) (by decide) (by decide)
set_option maxRecDepth 65536 in
set_option maxHeartbeats 40000000 in
theorem comes_1 {Post : Tables → Env → Array Value → State → Outcome → State → Prop} (hpost : ∀ tb e args s v u, (limb_1_1.after args s (.returned v) u = true ∧ limb_1_2.after args s (.returned v) u = true ∧ True) → FrameEnd s (.returned v) u (Jvm.fieldLocs frame_1_writes args s ++ Jvm.arrayLocs frame_1_arrays args s ++ Jvm.staticLocs frame_1_statics s) 0 0 → Post tb e args s (.returned v) u) :
    ArmFor flags0 classFile x code maxLocals ret World_1 tables_1 room_1 Calls_1 rest_1 Pre_1 Post := by
  intro l hfl _ _ p e ha hc hk s m args below hf hA hF happ hP
  obtain ⟨hcalls, hrest, hpre⟩ := hP
  obtain ⟨-, -, -, hnamed, -, -, -, hat⟩ := (Spec.applies_iff hf).mp happ
  obtain ⟨hg, hn⟩ := and_e (Cond.before_iff.mp (show (Jvm.Cond.and given_1 narrow_1).before args s = true from hpre))
  obtain ⟨h1, g0⟩ := and_e hg
  obtain ⟨k0, g1⟩ := and_e g0
  have k1 := g1
  obtain ⟨w0, w1, rfl⟩ : ∃ w0 w1 : Value, args = #[w0, w1] := by
    have hs : args.size = 2 := by simpa [Cond.value, given_1] using h1
    obtain ⟨L⟩ := args
    match L, hs with
    | [w0, w1], _ => exact ⟨w0, w1, rfl⟩
  have hw := fun d (hd : d ∈ tables_1) => atoms_spec (ws := Jvm.Cond.code x code maxLocals ret :: tables_1) hat d (List.mem_cons_of_mem _ hd)
  have hfit : Fit s := fun {y c} hc i hi => by
    obtain ⟨ha, rfl⟩ := Array.getElem?_eq_some_iff.mp hc
    have q := List.all_eq_true.mp ((Array.all_eq_true_iff_forall_mem.mp hF) _ (Array.getElem_mem ha)) i (List.mem_range.mpr hi)
    simpa [Array.getElem?_eq_getElem hi] using q
  obtain ⟨i0, q0⟩ := isL_v k0
  obtain rfl : w0 = (.long i0) := Option.some.inj q0
  obtain ⟨i1, q1⟩ := is_v k1
  obtain rfl : w1 = (.int i1) := Option.some.inj q1
  obtain ⟨nB, hn1⟩ := and_e hn
  obtain ⟨nN, hn2⟩ := and_e hn1
  obtain ⟨oB, oN⟩ := and_e hn2
  obtain ⟨ab, evB⟩ := exa_v nB
  obtain ⟨an, evN⟩ := exa_v nN
  have SB := Sta.start evB (Or.inr ⟨(own_g hw (i := 1) rfl), (own_g hw (i := 2) rfl)⟩)
  have SN := Sta.start evN (Or.inr ⟨(own_g hw (i := 1) rfl), (own_g hw (i := 9) rfl)⟩)
  have FB := own_fieldI evB oB
  have FN := own_fieldI evN oN
  have EB := Exa.start evB nB
  have EN := Exa.start evN nN
  have ne : ab ≠ an := FB.ne FN (by decide)
  obtain ⟨n, o, h1, h2, h3, _, L, rfl, ⟨rfl, N, -⟩, hq⟩ := own_rmlaw l s _ hw tables_1 i0 i1 an ab s.heap s.heap.size (Nat.le_refl _) SN SB EN EB ne p e ha hc hk s m _ below hf ((Spec.applies_iff_loose hf).mp happ).1 ⟨rfl, State.Warmed39.refl s, rfl⟩ trivial
  refine ⟨n, _, h1, h2, h3, hpost _ _ _ _ _ _ ⟨Cond.after_iff.mpr rfl, Cond.after_iff.mpr (eq_i res_at (Term.int_eval (1)) rfl), trivial⟩ ⟨hq.1, hq.2.1, (hq.2.2.sift fun y hy => Or.inr (N y hy)).mono (by decide) (by decide)⟩⟩
theorem main_1_1 : Claimed_1_1 := comes_1 fun _ _ _ _ _ _ h hF => ⟨h.1, hF⟩
theorem main_1_2 : Claimed_1_2 := comes_1 fun _ _ _ _ _ _ h hF => ⟨h.2.1, hF⟩
end Jvm.Pilot.@@N@@
namespace Jvm.Pilot.@@N@@
open Jvm Jvm.ClassFile Sem Op Lib Jvm.Free Jvm.Stand Jvm.Pilot.@@N@@.Jvm.D
/-! MADE BY PROGRAM (witnessworld.py) out of the Statement's table words and the real class files: 12 classes; the members and pool entries that the words name. The judged class is class 1, her method 1. -/
namespace start1
open Jvm.ClassFile
def u (s : String) : CpInfo := .utf8 (stringToUtf16 s)
/-- a pool by its gaps: so many unusable entries, then the entry; so many at the end -/
def gap : Nat → List CpInfo → List CpInfo
  | 0, r => r
  | n + 1, r => .unusable :: gap n r
def poolList (es : List (Nat × CpInfo)) (last : Nat) : List CpInfo := es.foldr (fun e r => gap e.1 (e.2 :: r)) (gap last [])
def pool (es : List (Nat × CpInfo)) (last : Nat) : Array CpInfo := ⟨poolList es last⟩
def fileOf (pool : Array CpInfo) (this : Nat) (attrs : Array Attribute := #[]) (ms : Array MethodInfo := #[]) (fl : Nat := 33) (sup : Nat := 0) (ifs : Array Nat := #[]) (fds : Array FieldInfo := #[]) : ClassFile where
  minorVersion := 0
  majorVersion := 65
  constantPool := pool
  accessFlags := fl
  thisClass := this
  superClass := sup
  interfaces := ifs
  fields := fds
  methods := ms
  attributes := attrs
def plain (name : String) (sup : Option ClassId) : Class where
  name := name
  kind := .ordinary
  loader := none
  accessFlags := 33
  super := sup
  interfaces := #[]
  cf := none
  fields := #[]
  methods := #[]
  instanceTypes := #[]
  staticTypes := #[]
  resolved := #[]
  callSites := []
  init := .initialized
  statics := none
  mirror := none

def pool0 : Array CpInfo := pool [(5, u "<init>"), (0, u "()V"), (1, .class_ 10), (1, u "java/lang/Object")] 113

def k0m0 : Method := { name := "<init>", desc := "()V", sig := { parameters := [], returnType := none }, accessFlags := 1, code := none }
/-- java/lang/Object -/
def k0 : Class := { plain "java/lang/Object" none with
  accessFlags := 33
  interfaces := #[]
  cf := some (fileOf pool0 8 #[] #[{ accessFlags := 1, nameIndex := 5, descriptorIndex := 6, attributes := #[] }] 33 0 #[] #[])
  fields := #[]
  methods := #[k0m0]
  instanceTypes := #[]
  staticTypes := #[]
  resolved := Array.replicate 124 none
  statics := none }

def pool1 : Array CpInfo := pool [(2, .class_ 4), (1, u "java/lang/Object"), (0, u "<init>"), (0, u "()V"), (0, .fieldref 8 9), (0, .class_ 10), (0, .nameAndType 11 12), (0, u "com/example/referee/referee/logic/stream/StreamType"), (0, u "NUM"), (0, u "Lcom/example/referee/referee/logic/stream/StreamType;"), (0, .fieldref 8 14), (0, .nameAndType 15 12), (0, u "BOOL"), (0, .methodref 8 17), (0, .nameAndType 18 19), (0, u "holds"), (0, u "(J)Z"), (0, .class_ 21), (0, u "com/example/referee/referee/logic/stream/StreamTypeHoldsPinLaw"), (2, u "law"), (0, u "(JI)Z")] 3

def k1m0 : Method := { name := "<init>", desc := "()V", sig := { parameters := [], returnType := none }, accessFlags := 1, code := none }
def k1c1 : Code := { maxStack := 4, maxLocals := 8, code := code, exceptionTable := #[], attributes := #[] }
def k1m1 : Method := { name := "law", desc := "(JI)Z", sig := { parameters := [.long, .int], returnType := some .boolean }, accessFlags := 9, code := some k1c1 }
/-- com/example/referee/referee/logic/stream/StreamTypeHoldsPinLaw -/
def k1 : Class := { plain "com/example/referee/referee/logic/stream/StreamTypeHoldsPinLaw" (some 0) with
  accessFlags := 49
  interfaces := #[]
  cf := some (fileOf pool1 20 #[] #[{ accessFlags := 1, nameIndex := 5, descriptorIndex := 6, attributes := #[] }, { accessFlags := 9, nameIndex := 24, descriptorIndex := 25, attributes := #[] }] 49 2 #[] #[])
  fields := #[]
  methods := #[k1m0, k1m1]
  instanceTypes := #[]
  staticTypes := #[]
  resolved := Array.replicate 29 none
  statics := none }

def pool2 : Array CpInfo := pool [(1, .class_ 2), (0, u "java/lang/constant/Constable"), (0, .class_ 4), (0, u "java/lang/Object")] 6

/-- java/lang/constant/Constable -/
def k2 : Class := { plain "java/lang/constant/Constable" (some 0) with
  accessFlags := 1537
  interfaces := #[]
  cf := some (fileOf pool2 1 #[] #[] 1537 3 #[] #[])
  fields := #[]
  methods := #[]
  instanceTypes := #[]
  staticTypes := #[]
  resolved := Array.replicate 11 none
  statics := none }

def pool3 : Array CpInfo := pool [(1, .class_ 2), (0, u "java/lang/Comparable"), (0, .class_ 4), (0, u "java/lang/Object")] 7

/-- java/lang/Comparable -/
def k3 : Class := { plain "java/lang/Comparable" (some 0) with
  accessFlags := 1537
  interfaces := #[]
  cf := some (fileOf pool3 1 #[] #[] 1537 3 #[] #[])
  fields := #[]
  methods := #[]
  instanceTypes := #[]
  staticTypes := #[]
  resolved := Array.replicate 12 none
  statics := none }

def pool4 : Array CpInfo := pool [(1, .class_ 2), (0, u "java/io/Serializable"), (0, .class_ 4), (0, u "java/lang/Object")] 2

/-- java/io/Serializable -/
def k4 : Class := { plain "java/io/Serializable" (some 0) with
  accessFlags := 1537
  interfaces := #[]
  cf := some (fileOf pool4 1 #[] #[] 1537 3 #[] #[])
  fields := #[]
  methods := #[]
  instanceTypes := #[]
  staticTypes := #[]
  resolved := Array.replicate 7 none
  statics := none }

def pool5 : Array CpInfo := pool [(2, .class_ 4), (1, u "java/lang/Enum"), (0, u "name"), (0, u "Ljava/lang/String;"), (2, u "ordinal"), (0, u "I"), (1, .class_ 14), (1, u "java/lang/Object"), (4, u "hash"), (86, .class_ 108), (1, u "java/lang/Enum$EnumDesc"), (2, .class_ 112), (0, u "java/lang/constant/Constable"), (0, .class_ 114), (0, u "java/lang/Comparable"), (0, .class_ 116), (0, u "java/io/Serializable")] 87

/-- java/lang/Enum -/
def k5 : Class := { plain "java/lang/Enum" (some 0) with
  accessFlags := 1057
  interfaces := #[2, 3, 4]
  cf := some (fileOf pool5 2 #[.nestMembers #[106]] #[] 1057 12 #[111, 113, 115] #[{ accessFlags := 18, nameIndex := 5, descriptorIndex := 6, attributes := #[] }, { accessFlags := 18, nameIndex := 9, descriptorIndex := 10, attributes := #[] }, { accessFlags := 2, nameIndex := 19, descriptorIndex := 10, attributes := #[] }])
  fields := #[{ name := "name", type := (.object "java/lang/String"), accessFlags := 18, slot := 0, constantValue := 0 }, { name := "ordinal", type := .int, accessFlags := 18, slot := 1, constantValue := 0 }, { name := "hash", type := .int, accessFlags := 2, slot := 2, constantValue := 0 }]
  methods := #[]
  instanceTypes := #[(.object "java/lang/String"), .int, .int]
  staticTypes := #[]
  resolved := Array.replicate 204 none
  statics := none }

def pool6 : Array CpInfo := pool [(1, .class_ 2), (0, u "com/example/referee/referee/logic/stream/StreamType"), (0, .fieldref 1 4), (0, .nameAndType 5 6), (0, u "NUM"), (0, u "Lcom/example/referee/referee/logic/stream/StreamType;"), (2, u "BOOL"), (2, u "$VALUES"), (0, u "[Lcom/example/referee/referee/logic/stream/StreamType;"), (6, .class_ 22), (1, u "java/lang/Enum"), (8, u "keyword"), (0, u "Ljava/lang/String;"), (82, u "holds"), (0, u "(J)Z")] 38

def k6c0 : Code := { maxStack := 4, maxLocals := 3, code := prog_123_method_7_code, exceptionTable := #[], attributes := #[] }
def k6m0 : Method := { name := "holds", desc := "(J)Z", sig := { parameters := [.long], returnType := some .boolean }, accessFlags := 0, code := some k6c0 }
/-- com/example/referee/referee/logic/stream/StreamType -/
def k6 : Class := { plain "com/example/referee/referee/logic/stream/StreamType" (some 5) with
  accessFlags := 16433
  interfaces := #[]
  cf := some (fileOf pool6 1 #[] #[{ accessFlags := 0, nameIndex := 115, descriptorIndex := 116, attributes := #[] }] 16433 20 #[] #[{ accessFlags := 16409, nameIndex := 5, descriptorIndex := 6, attributes := #[] }, { accessFlags := 16409, nameIndex := 9, descriptorIndex := 6, attributes := #[] }, { accessFlags := 18, nameIndex := 31, descriptorIndex := 32, attributes := #[] }, { accessFlags := 4122, nameIndex := 12, descriptorIndex := 13, attributes := #[] }])
  fields := #[{ name := "NUM", type := (.object "com/example/referee/referee/logic/stream/StreamType"), accessFlags := 16409, slot := 0, constantValue := 0 }, { name := "BOOL", type := (.object "com/example/referee/referee/logic/stream/StreamType"), accessFlags := 16409, slot := 1, constantValue := 0 }, { name := "keyword", type := (.object "java/lang/String"), accessFlags := 18, slot := 3, constantValue := 0 }, { name := "$VALUES", type := (.array (.object "com/example/referee/referee/logic/stream/StreamType")), accessFlags := 4122, slot := 2, constantValue := 0 }]
  methods := #[k6m0]
  instanceTypes := #[(.object "java/lang/String"), .int, .int, (.object "java/lang/String")]
  staticTypes := #[(.object "com/example/referee/referee/logic/stream/StreamType"), (.object "com/example/referee/referee/logic/stream/StreamType"), (.array (.object "com/example/referee/referee/logic/stream/StreamType"))]
  resolved := Array.replicate 155 none
  statics := some 0 }

def pool7 : Array CpInfo := pool [(1, u "java/lang/Cloneable"), (0, .class_ 1), (0, u "java/lang/Object"), (0, .class_ 3)] 3

/-- java/lang/Cloneable -/
def k7 : Class := { plain "java/lang/Cloneable" (some 0) with
  accessFlags := 1537
  interfaces := #[]
  cf := some (fileOf pool7 2 #[] #[] 1537 4 #[] #[])
  fields := #[]
  methods := #[]
  instanceTypes := #[]
  staticTypes := #[]
  resolved := Array.replicate 8 none
  statics := none }

/-- the primitive byte -/
def k8 : Class := { plain "byte" none with kind := .primitive 'B', accessFlags := 0x411 }
/-- [B -/
def k9 : Class := { plain "[B" (some 0) with kind := .array 8 .byte, interfaces := #[7, 4], accessFlags := 1041 }

/-- the primitive int -/
def k10 : Class := { plain "int" none with kind := .primitive 'I', accessFlags := 0x411 }
/-- [I -/
def k11 : Class := { plain "[I" (some 0) with kind := .array 10 .int, interfaces := #[7, 4], accessFlags := 1041 }

def heap : Heap := #[{ cls := 6, slots := #[.ref 2, .ref 1, .null], vm := .statics 6 },
  { cls := 6, slots := #[.null, .int 1, .int 0, .null], vm := .none },
  { cls := 6, slots := #[.null, .int 0, .int 0, .null], vm := .none }]
def classes : Array Class := #[k0, k1, k2, k3, k4, k5, k6, k7, k8, k9, k10, k11]
def interned : List (Array UInt16 × Addr) := []
def slotsUsed : Nat := 11
def theMethod : MethodId := ⟨1, 1⟩
def args0 : Array Value := #[.long 5, .int 1]
def aboutOver (below : List Frame) : State where
  vm := { classes := classes, interned := interned.toArray }
  heap := heap
  slotsUsed := slotsUsed
  threads := #[{ frames := .invoking theMethod args0 :: below }]
def below0 : List Frame := [.native { method := ⟨0, 0⟩, args := #[] }]
def about1 : State := aboutOver below0
def p0 : Program := .bare "" "" ""
def e0 : Env := launch0.env 0 0 0
theorem w_frames : about1.frames = Frame.invoking theMethod args0 :: below0 := rfl
set_option maxRecDepth 65536 in
theorem w_args : argsFit about1.vm theMethod args0 = true := by decide +kernel
set_option maxRecDepth 65536 in
theorem w_heap : heapFits about1 = true := by decide +kernel
set_option maxRecDepth 65536 in
theorem w_runnable : about1.curStatus? = some .runnable := by decide +kernel
set_option maxRecDepth 65536 in
theorem w_alone : about1.alone = true := by decide +kernel
set_option maxRecDepth 65536 in
theorem w_named : about1.methodNamed? x = some theMethod := by decide +kernel
set_option maxRecDepth 65536 in
theorem w_hears : about1.hears theMethod below0 = true := by decide +kernel
set_option maxRecDepth 65536 in
theorem w_ripe : about1.ripe theMethod args0 below0 = true := by decide +kernel
theorem w_running : about1.status = .running := rfl
set_option maxRecDepth 65536 in
theorem w_room : about1.hasRoom e0.platform room_1 = true :=
  launch0.hasRoom_least _ room_1 (by decide +kernel) (by decide +kernel) (by decide +kernel) (by decide +kernel) (by decide +kernel) (by decide +kernel)
theorem allAtoms_all (ts : List Jvm.Cond) (a : Array Jvm.Value) (st : Jvm.State) : (allAtoms ts).before a st = ts.all (fun c => c.before a st) := by
  induction ts with
  | nil => rfl
  | cons c t ih =>
    show (Jvm.Cond.and c (allAtoms t)).before a st = _
    rw [Jvm.Cond.before_and, ih, List.all_cons]
def words1 : List Jvm.Cond := Jvm.Cond.code x code maxLocals ret :: tables_1
/-- a 'code' word, met by the world's own term for the bytes: nothing is compared byte by byte -/
theorem code_word {y : MethodName} {bytes : ByteArray} {mx : Nat} {rt : Option FieldType} {a : Array Value} {s : State} {m : MethodId} {meth : Method} {c : Code} (h1 : s.methodNamed? y = some m) (h2 : s.vm.method? m = some meth) (h3 : meth.code = some c) (h4 : c.code = bytes)
    (h5 : (c.maxLocals == mx && c.exceptionTable.isEmpty && decide (c.maxStack ≤ mostOperands) && decide (meth.sig.returnType = rt) && !meth.locks && decide (parseMethodDescriptor y.desc = some meth.sig)) = true) : (Jvm.Cond.code y bytes mx rt).before a s = true := by
  simp only [Bool.and_eq_true, beq_iff_eq, Bool.not_eq_true', decide_eq_true_eq] at h5
  obtain ⟨⟨⟨⟨⟨g1, g2⟩, g3⟩, g4⟩, g5⟩, g6⟩ := h5
  simp [Cond.before, Cond.holds, Cond.value, h1, h2, h3, h4, g1, g2, g3, g4, g5, g6]
def isCode : Jvm.Cond → Bool
  | .code _ _ _ _ => true
  | _ => false
theorem all_split {L : List Jvm.Cond} {P : Jvm.Cond → Bool} (h1 : L.all (fun c => isCode c || P c) = true) (h2 : ∀ c ∈ L.filter isCode, P c = true) : L.all P = true := by
  refine List.all_eq_true.mpr fun c hc => ?_
  have h := List.all_eq_true.mp h1 c hc
  rcases Bool.eq_false_or_eq_true (isCode c) with hi | hi
  · exact h2 c (List.mem_filter.mpr ⟨hc, hi⟩)
  · simpa [hi] using h
set_option maxRecDepth 65536 in
theorem w_c0 : (Jvm.Cond.code x code maxLocals ret).before args0 about1 = true := code_word (m := ⟨1, 1⟩) (meth := k1m1) (c := k1c1) (by decide +kernel) rfl rfl rfl (by decide +kernel)
set_option maxRecDepth 65536 in
theorem w_c1 : (Jvm.Cond.code ({ cls := "com/example/referee/referee/logic/stream/StreamType", name := "holds", desc := "(J)Z" } : Jvm.MethodName) prog_123_method_7_code (3 : Nat) (Option.some Jvm.ClassFile.FieldType.boolean)).before args0 about1 = true := code_word (m := ⟨6, 0⟩) (meth := k6m0) (c := k6c0) (by decide +kernel) rfl rfl rfl (by decide +kernel)
def codes1 : List Jvm.Cond := [Jvm.Cond.code x code maxLocals ret, Jvm.Cond.code ({ cls := "com/example/referee/referee/logic/stream/StreamType", name := "holds", desc := "(J)Z" } : Jvm.MethodName) prog_123_method_7_code (3 : Nat) (Option.some Jvm.ClassFile.FieldType.boolean)]
set_option maxRecDepth 65536 in
theorem codes_eq : words1.filter isCode = codes1 := rfl
theorem w_codes : ∀ c ∈ words1.filter isCode, c.before args0 about1 = true := by
  rw [codes_eq]
  intro c hc
  simp only [codes1, List.mem_cons, List.not_mem_nil, or_false] at hc
  rcases hc with rfl | rfl
  · exact w_c0
  · exact w_c1
set_option maxRecDepth 65536 in
theorem w_t1 : words1.all (fun c => isCode c || c.before args0 about1) = true := by decide +kernel
theorem w_tables : (allAtoms (Jvm.Cond.code x code maxLocals ret :: tables_1)).before args0 about1 = true := by
  rw [allAtoms_all]
  show words1.all (fun c => c.before args0 about1) = true
  refine all_split ?_ w_codes
  rw [w_t1]
set_option maxRecDepth 65536 in
theorem w_case : (Jvm.Cond.and given_1 narrow_1).before args0 about1 = true := by decide +kernel
theorem w_applies : (headSpec (Jvm.Cond.code x code maxLocals ret :: tables_1) room_1).applies x e0.platform about1 = true :=
  (Spec.applies_iff w_frames).mpr ⟨w_running, w_runnable, w_alone, w_named, w_hears, w_ripe, w_room, w_tables⟩
theorem atStart : AtStart classFile x code maxLocals ret World_1 tables_1 room_1 Calls_1 rest_1 Pre_1 launch0 p0 e0 about1 theMethod args0 below0 :=
  ⟨lists_1, trivial, launch0.admits_env _ _ _, launch0.least_env, fairChoices_fair.cas, fairChoices_fair.clock, w_frames, w_args, w_heap, w_applies, trivial, trivial, w_case⟩
end start1
theorem witness_1 : WitnessClaimed_1 := ⟨start1.p0, start1.e0, start1.about1, start1.theMethod, start1.args0, start1.below0, start1.atStart⟩
end Jvm.Pilot.@@N@@
