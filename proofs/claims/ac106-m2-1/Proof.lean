import JvmDerived
import JvmDerived.Pilot.@@N@@Statement
import JvmDerived.Pilot.@@N@@Code
set_option linter.unusedVariables false
set_option linter.unusedSimpArgs false
namespace Jvm.RoadKit
open Sem ClassFile Op Lib Jvm.Stand Jvm.Free Jvm.LawKit
section New
variable {p : Program} {l : Launch} {e : Env} {R : Room} {s : State} {m : MethodId} {args : Array Value} {below : List Frame} {meth : Method} {c : Code} {T : State} {locs : List Loc} {cells slots : Nat}
theorem retI (X : Stand p l e R s m args below meth c T locs cells slots) (hx : p.tables.exec = Jvm.exec) {pc : Nat} {Ls : Array Slot} {z : Int32} {rest : List Value} (hret : meth.sig.returnType = some .int) (hd : decode c.code pc = .ok (.ireturn, 1)) {fs : List Frame}
    (hl : ∀ (f : JFrame) (acts : List Action), f.method = m → f.locked = none → f.entered = [] → (doReturn e (T.setTop f) acts (some (.int z))).1 = T.setFrames fs) : Steps p.tables e below (T.setTop (mkF m pc Ls (.int z :: rest))) (T.setFrames fs) := by
  have hm' : T.vm.method? m = some meth := X.method'
  have hn : narrow .int (.int z) = .int z := rfl
  show Steps p.tables e below (T.setTop { method := m, pc := pc, locals := Ls, stack := _ :: rest, locked := none }) _
  jvm_step X.here [X.here.top, hx, hd, hm', hret, hn]
  first | (intro acts; rw [hl _ acts rfl rfl rfl]) | rw [hl _ _ rfl rfl rfl]
  exact Steps.refl _
end New
end Jvm.RoadKit
namespace Jvm.Pilot.@@N@@
open Jvm Jvm.ClassFile Sem Op Lib Jvm.Free Jvm.Stand Jvm.LawKit Jvm.RoadKit Bundle Jvm.Pilot.@@N@@.Jvm.D
theorem own_nb {P : Prop} [Decidable P] : nar .boolean (if P then (1 : Int32) else (0 : Int32)) = if P then (1 : Int32) else (0 : Int32) := by split <;> rfl
theorem own_nb2 {z : Int32} (h : z = 0 ∨ z = 1) : nar .boolean z = z := by rcases h with rfl | rfl <;> rfl
theorem own_01 {P : Prop} [Decidable P] : (if P then (1 : Int32) else (0 : Int32)) = 0 ∨ (if P then (1 : Int32) else (0 : Int32)) = 1 := by split <;> simp
theorem own_iv {a b : Int32} (h : a = b) : some (Value.int a) = some (Value.int b) := by rw [h]
theorem own_lv {a b : Int64} (h : a = b) : some (Value.long a) = some (Value.long b) := by rw [h]
theorem own_fldI {args : Array Value} {s : State} {t : Term} {C n d : String} {a : Addr} {k : Int32} (ht : t.eval args s none [] s = some (.ref a)) (h : (Jvm.Cond.eq (.field t C n d) (.int k)).value args s none s [] = some true) : Fld s s.heap a C n d (.int k) := by
  apply Fld.start
  rw [← fld_at (C := C) (n := n) (dd := d) ht]
  cases hx : (Term.field t C n d).eval args s none [] s with
  | none => simp [Cond.value, hx] at h
  | some x => cases x <;> simp [Cond.value, hx, Term.int_eval] at h ⊢ <;> exact h
theorem own_d1_0 : decode method_2_code 0 = .ok (.lload_n 0, 1) := by decide +kernel
theorem own_d1_1 : decode method_2_code 1 = .ok (.lconst 0, 1) := by decide +kernel
theorem own_d1_2 : decode method_2_code 2 = .ok (.lcmp, 1) := by decide +kernel
theorem own_d1_3 : decode method_2_code 3 = .ok (.ifCond .ge 5, 3) := by decide +kernel
theorem own_d1_6 : decode method_2_code 6 = .ok (.iconst (-1), 1) := by decide +kernel
theorem own_d1_7 : decode method_2_code 7 = .ok (.ireturn, 1) := by decide +kernel
theorem own_d1_8 : decode method_2_code 8 = .ok (.lload_n 0, 1) := by decide +kernel
theorem own_d1_9 : decode method_2_code 9 = .ok (.lconst 0, 1) := by decide +kernel
theorem own_d1_10 : decode method_2_code 10 = .ok (.lcmp, 1) := by decide +kernel
theorem own_d1_11 : decode method_2_code 11 = .ok (.ifCond .ne 5, 3) := by decide +kernel
theorem own_d1_14 : decode method_2_code 14 = .ok (.iconst 0, 1) := by decide +kernel
theorem own_d1_15 : decode method_2_code 15 = .ok (.ireturn, 1) := by decide +kernel
theorem own_d1_16 : decode method_2_code 16 = .ok (.iconst 1, 1) := by decide +kernel
theorem own_d1_17 : decode method_2_code 17 = .ok (.ireturn, 1) := by decide +kernel
theorem own_pn0 : plainName "com/example/antigonish/antigonish/RelationHoldsPinLaw" = true := by first | (simp [plainName, overriddenIn]; done) | decide +kernel
theorem own_ef1 (m : MethodId) (x0 : Int64) : entryFrame m #[(.long x0)] 2 = mkF m 0 #[.val (.long x0), .second] [] := by first | (simp [entryFrame, mkF, argsToLocals, Value.category]; done) | rfl
def own_Q_own_sign (Z : State) (d : Int64) (h0 : Heap) (n0 : Nat) (v : Option Value) (h : Heap) (L : List Loc) : Prop := v = some (.int (if d < 0 then -1 else if d = 0 then 0 else 1)) ∧ Fr n0 L ∧ h = h0
set_option maxRecDepth 65536 in
set_option maxHeartbeats 40000000 in
theorem own_sign (l : Launch) (Z : State) (a0 : Array Value) (hw : ∀ d ∈ tables_1, d.before a0 Z = true) (ws : List Jvm.Cond) (d : Int64) (h0 : Heap) (n0 : Nat) (Z0 : n0 ≤ h0.size) :
    MetFree l (⟨"com/example/antigonish/antigonish/RelationHoldsPinLaw", "sign", "(J)I"⟩ : MethodName) (head1 (Jvm.Cond.code (⟨"com/example/antigonish/antigonish/RelationHoldsPinLaw", "sign", "(J)I"⟩ : MethodName) method_2_code 2 (some .int) :: ws) ({ frames := 0, cells := 0, slots := 0, locals := 0 } : Room)) (fun as_ U => as_ = #[(.long d)] ∧ Z.Warmed39 U.vm ∧ U.heap = h0) (fun _ _ _ _ _ => True) (fun _ U o U' => ∃ v L, o = .returned v ∧ own_Q_own_sign Z d h0 n0 v U'.heap L ∧ FrameEnd U o U' L ({ frames := 0, cells := 0, slots := 0, locals := 0 } : Room).cells ({ frames := 0, cells := 0, slots := 0, locals := 0 } : Room).slots) := by
  refine MetFree.of_bodySF (plainFor_of_name own_pn0) hisR ?_
  intro p e s m args below meth c s₁ Bd hml0 hP hK
  obtain ⟨rfl, hZ, hh⟩ := hP
  have hx := Bd.exec
  have hby := Bd.bytes
  have hml : c.maxLocals = 2 := hml0
  have hown : s.vm.findClass "com/example/antigonish/antigonish/RelationHoldsPinLaw" = some m.cls := findClass_of_methodNamed Bd.named
  have hnm := (name_of_methodNamed Bd.named Bd.method).1
  have X0 : Stand p l e ({ frames := 0, cells := 0, slots := 0, locals := 0 } : Room) s m #[(.long d)] below meth c s₁ [] 0 0 := Stand.of_body Bd
  have e0 : s₁.heap = h0 := by rw [← hh, Bd.state]; rfl
  have N0 := Fr.nil n0
  have pre0 : ∀ t, Steps p.tables e below (s₁.setTop (mkF m 0 #[.val (.long d), .second] [])) t → Steps p.tables e below (s₁.setTop (entryFrame m #[(.long d)] 2)) t := fun t k => castTop (own_ef1 m d) k
  have pre1 : ∀ t, Steps p.tables e below (s₁.setTop (mkF m 3 #[.val (.long d), .second] [(.int (lcmpW d (0 : Int64)))])) t → Steps p.tables e below (s₁.setTop (entryFrame m #[(.long d)] 2)) t := fun t k => pre0 t (by
    show Steps p.tables e below (s₁.setTop (mkF m 0 #[.val (.long d), .second] [])) _
    refine XS.lloadN X0.here hx rfl (hb hby own_d1_0) rfl ?_
    show Steps p.tables e below (s₁.setTop (mkF m 1 #[.val (.long d), .second] [(.long d)])) _
    refine XS.lconst X0.here hx rfl (hb hby own_d1_1) ?_
    show Steps p.tables e below (s₁.setTop (mkF m 2 #[.val (.long d), .second] [(.long (0 : Int64)), (.long d)])) _
    refine XS.lcmp X0.here hx rfl (hb hby own_d1_2) rfl ?_
    show Steps p.tables e below (s₁.setTop (mkF m 3 #[.val (.long d), .second] [(.int (lcmpW d (0 : Int64)))])) _
    exact k)
  by_cases hc2 : d < (0 : Int64)
  · skip
    obtain ⟨fs, hr, hrun, hended, hW, hsame⟩ := X0.leave (v := some (.int (-1 : Int32))) (fun h => by rw [Bd.returns] at h; cases h)
    refine ⟨_, _, pre1 _ ?_, hrun, hended, _, _, rfl, ?_, ⟨_, rfl⟩, hW, hsame.mono (by decide) (by decide)⟩
    · refine XS.ifNo X0.here hx rfl (hb hby own_d1_3) rfl ((if0 _ _).trans (tlt ((lw_lt _ _).mpr hc2)).2.1) ?_
      show Steps p.tables e below (s₁.setTop (mkF m 6 #[.val (.long d), .second] [])) _
      refine XS.iconst X0.here hx rfl (hb hby own_d1_6) ?_
      show Steps p.tables e below (s₁.setTop (mkF m 7 #[.val (.long d), .second] [(.int (-1 : Int32))])) _
      exact retI X0 hx Bd.returns (hb hby own_d1_7) hr
    · show own_Q_own_sign Z d h0 n0 _ s₁.heap _
      rw [e0]
      exact ⟨by simp [hc2], N0, rfl⟩
  · skip
    have pre3 : ∀ t, Steps p.tables e below (s₁.setTop (mkF m 11 #[.val (.long d), .second] [(.int (lcmpW d (0 : Int64)))])) t → Steps p.tables e below (s₁.setTop (entryFrame m #[(.long d)] 2)) t := fun t k => pre1 t (by
      refine XS.ifYes X0.here hx rfl (pc0 := 3) (pc' := 8) rfl (hb hby own_d1_3) rfl ((if0 _ _).trans (flt (fun q => hc2 ((lw_lt _ _).mp q))).2.1) (by decide) (by decide) ?_
      show Steps p.tables e below (s₁.setTop (mkF m 8 #[.val (.long d), .second] [])) _
      refine XS.lloadN X0.here hx rfl (hb hby own_d1_8) rfl ?_
      show Steps p.tables e below (s₁.setTop (mkF m 9 #[.val (.long d), .second] [(.long d)])) _
      refine XS.lconst X0.here hx rfl (hb hby own_d1_9) ?_
      show Steps p.tables e below (s₁.setTop (mkF m 10 #[.val (.long d), .second] [(.long (0 : Int64)), (.long d)])) _
      refine XS.lcmp X0.here hx rfl (hb hby own_d1_10) rfl ?_
      show Steps p.tables e below (s₁.setTop (mkF m 11 #[.val (.long d), .second] [(.int (lcmpW d (0 : Int64)))])) _
      exact k)
    by_cases hc4 : d = (0 : Int64)
    · skip
      obtain ⟨fs, hr, hrun, hended, hW, hsame⟩ := X0.leave (v := some (.int (0 : Int32))) (fun h => by rw [Bd.returns] at h; cases h)
      refine ⟨_, _, pre3 _ ?_, hrun, hended, _, _, rfl, ?_, ⟨_, rfl⟩, hW, hsame.mono (by decide) (by decide)⟩
      · refine XS.ifNo X0.here hx rfl (hb hby own_d1_11) rfl ((if0 _ _).trans (teq ((lw_eq _ _).mpr hc4)).2) ?_
        show Steps p.tables e below (s₁.setTop (mkF m 14 #[.val (.long d), .second] [])) _
        refine XS.iconst X0.here hx rfl (hb hby own_d1_14) ?_
        show Steps p.tables e below (s₁.setTop (mkF m 15 #[.val (.long d), .second] [(.int (0 : Int32))])) _
        exact retI X0 hx Bd.returns (hb hby own_d1_15) hr
      · show own_Q_own_sign Z d h0 n0 _ s₁.heap _
        rw [e0]
        exact ⟨by simp [hc2, hc4], N0, rfl⟩
    · skip
      obtain ⟨fs, hr, hrun, hended, hW, hsame⟩ := X0.leave (v := some (.int (1 : Int32))) (fun h => by rw [Bd.returns] at h; cases h)
      refine ⟨_, _, pre3 _ ?_, hrun, hended, _, _, rfl, ?_, ⟨_, rfl⟩, hW, hsame.mono (by decide) (by decide)⟩
      · refine XS.ifYes X0.here hx rfl (pc0 := 11) (pc' := 16) rfl (hb hby own_d1_11) rfl ((if0 _ _).trans (feq (fun q => hc4 ((lw_eq _ _).mp q))).2) (by decide) (by decide) ?_
        show Steps p.tables e below (s₁.setTop (mkF m 16 #[.val (.long d), .second] [])) _
        refine XS.iconst X0.here hx rfl (hb hby own_d1_16) ?_
        show Steps p.tables e below (s₁.setTop (mkF m 17 #[.val (.long d), .second] [(.int (1 : Int32))])) _
        exact retI X0 hx Bd.returns (hb hby own_d1_17) hr
      · show own_Q_own_sign Z d h0 n0 _ s₁.heap _
        rw [e0]
        exact ⟨by simp [hc2, hc4], N0, rfl⟩
theorem own_d4_0 : decode jdk_37_method_2_code 0 = .ok (.aload_n 0, 1) := by decide +kernel
theorem own_d4_1 : decode jdk_37_method_2_code 1 = .ok (.getfield 7, 3) := by decide +kernel
theorem own_d4_4 : decode jdk_37_method_2_code 4 = .ok (.ireturn, 1) := by decide +kernel
theorem own_pn1 : plainName "java/lang/Enum" = true := by first | (simp [plainName, overriddenIn]; done) | decide +kernel
theorem own_ef4 (m : MethodId) (x0 : Addr) : entryFrame m #[(.ref x0)] 1 = mkF m 0 #[.val (.ref x0)] [] := by first | (simp [entryFrame, mkF, argsToLocals, Value.category]; done) | rfl
def own_Q_own_ord (Z : State) (a : Addr) (w : Int32) (h0 : Heap) (n0 : Nat) (v : Option Value) (h : Heap) (L : List Loc) : Prop := v = some (.int w) ∧ Fr n0 L ∧ h = h0
set_option maxRecDepth 65536 in
set_option maxHeartbeats 40000000 in
theorem own_ord (l : Launch) (Z : State) (a0 : Array Value) (hw : ∀ d ∈ tables_1, d.before a0 Z = true) (ws : List Jvm.Cond) (a : Addr) (w : Int32) (h0 : Heap) (n0 : Nat) (Z0 : n0 ≤ h0.size) (F : Fld Z h0 a "java/lang/Enum" "ordinal" "I" (.int w)) :
    MetFree l (⟨"java/lang/Enum", "ordinal", "()I"⟩ : MethodName) (head1 (Jvm.Cond.code (⟨"java/lang/Enum", "ordinal", "()I"⟩ : MethodName) jdk_37_method_2_code 1 (some .int) :: ws) ({ frames := 0, cells := 0, slots := 0, locals := 0 } : Room)) (fun as_ U => as_ = #[(.ref a)] ∧ Z.Warmed39 U.vm ∧ U.heap = h0) (fun _ _ _ _ _ => True) (fun _ U o U' => ∃ v L, o = .returned v ∧ own_Q_own_ord Z a w h0 n0 v U'.heap L ∧ FrameEnd U o U' L ({ frames := 0, cells := 0, slots := 0, locals := 0 } : Room).cells ({ frames := 0, cells := 0, slots := 0, locals := 0 } : Room).slots) := by
  refine MetFree.of_bodySF (plainFor_of_name own_pn1) hisR ?_
  intro p e s m args below meth c s₁ Bd hml0 hP hK
  obtain ⟨rfl, hZ, hh⟩ := hP
  have hx := Bd.exec
  have hby := Bd.bytes
  have hml : c.maxLocals = 1 := hml0
  have hown : s.vm.findClass "java/lang/Enum" = some m.cls := findClass_of_methodNamed Bd.named
  have hnm := (name_of_methodNamed Bd.named Bd.method).1
  have X0 : Stand p l e ({ frames := 0, cells := 0, slots := 0, locals := 0 } : Room) s m #[(.ref a)] below meth c s₁ [] 0 0 := Stand.of_body Bd
  have e0 : s₁.heap = h0 := by rw [← hh, Bd.state]; rfl
  have N0 := Fr.nil n0
  have pre0 : ∀ t, Steps p.tables e below (s₁.setTop (mkF m 0 #[.val (.ref a)] [])) t → Steps p.tables e below (s₁.setTop (entryFrame m #[(.ref a)] 1)) t := fun t k => castTop (own_ef4 m a) k
  obtain ⟨T1, X1, e1, st1⟩ := getF X0 hx hZ hown (host := "") (Or.inl (hw _ (List.mem_of_getElem? (i := 22) rfl))) Via.refl e0 F (g := (mkF m 1 #[.val (.ref a)] [(.ref a)])) rfl rfl (hb hby own_d4_1)
  obtain ⟨fs, hr, hrun, hended, hW, hsame⟩ := X1.leave (v := some (.int w)) (fun h => by rw [Bd.returns] at h; cases h)
  refine ⟨_, _, pre0 _ ?_, hrun, hended, _, _, rfl, ?_, ⟨_, rfl⟩, hW, hsame.mono (by decide) (by decide)⟩
  · show Steps p.tables e below (s₁.setTop (mkF m 0 #[.val (.ref a)] [])) _
    refine XS.aloadN X0.here hx rfl (hb hby own_d4_0) rfl rfl ?_
    show Steps p.tables e below (s₁.setTop (mkF m 1 #[.val (.ref a)] [(.ref a)])) _
    refine st1 _ ?_
    show Steps p.tables e below (T1.setTop (mkF m 4 #[.val (.ref a)] [(.int w)])) _
    exact retI X1 hx Bd.returns (hb hby own_d4_4) hr
  · show own_Q_own_ord Z a w h0 n0 _ T1.heap _
    rw [e1]
    exact ⟨rfl, N0, rfl⟩
theorem own_pd0 : parseMethodDescriptor "()I" = some ⟨[], some .int⟩ := by decide +kernel
theorem own_d3_0 : decode prog_56_method_6_code 0 = .ok (.aload_n 0, 1) := by decide +kernel
theorem own_d3_1 : decode prog_56_method_6_code 1 = .ok (.invokevirtual 59, 3) := by decide +kernel
theorem own_d3_4 : decode prog_56_method_6_code 4 = .ok (.tableswitch 111 0 4 #[36, 51, 66, 81, 96], 36) := by decide +kernel
theorem own_d3_40 : decode prog_56_method_6_code 40 = .ok (.lload_n 1, 1) := by decide +kernel
theorem own_d3_41 : decode prog_56_method_6_code 41 = .ok (.lconst 0, 1) := by decide +kernel
theorem own_d3_42 : decode prog_56_method_6_code 42 = .ok (.lcmp, 1) := by decide +kernel
theorem own_d3_43 : decode prog_56_method_6_code 43 = .ok (.ifCond .ge 7, 3) := by decide +kernel
theorem own_d3_46 : decode prog_56_method_6_code 46 = .ok (.iconst 1, 1) := by decide +kernel
theorem own_d3_47 : decode prog_56_method_6_code 47 = .ok (.goto 4, 3) := by decide +kernel
theorem own_d3_50 : decode prog_56_method_6_code 50 = .ok (.iconst 0, 1) := by decide +kernel
theorem own_d3_51 : decode prog_56_method_6_code 51 = .ok (.istore_n 3, 1) := by decide +kernel
theorem own_d3_52 : decode prog_56_method_6_code 52 = .ok (.goto 75, 3) := by decide +kernel
theorem own_d3_127 : decode prog_56_method_6_code 127 = .ok (.iload_n 3, 1) := by decide +kernel
theorem own_d3_128 : decode prog_56_method_6_code 128 = .ok (.ireturn, 1) := by decide +kernel
theorem own_pn2 : plainName "com/example/antigonish/antigonish/Relation" = true := by first | (simp [plainName, overriddenIn]; done) | decide +kernel
theorem own_ef3 (m : MethodId) (x0 : Addr) (x1 : Int64) : entryFrame m #[(.ref x0), (.long x1)] 4 = mkF m 0 #[.val (.ref x0), .val (.long x1), .second, .unset] [] := by first | (simp [entryFrame, mkF, argsToLocals, Value.category]; done) | rfl
def own_Q_own_holds0 (Z : State) (a : Addr) (d : Int64) (h0 : Heap) (n0 : Nat) (v : Option Value) (h : Heap) (L : List Loc) : Prop := v = some (.int (if d < (0 : Int64) then 1 else 0)) ∧ Fr n0 L ∧ h = h0
set_option maxRecDepth 65536 in
set_option maxHeartbeats 40000000 in
theorem own_holds0 (l : Launch) (Z : State) (a0 : Array Value) (hw : ∀ d ∈ tables_1, d.before a0 Z = true) (ws : List Jvm.Cond) (a : Addr) (d : Int64) (h0 : Heap) (n0 : Nat) (Z0 : n0 ≤ h0.size) (F : Fld Z h0 a "java/lang/Enum" "ordinal" "I" (.int (0))) (E : Exa Z h0 a "com/example/antigonish/antigonish/Relation") :
    MetFree l (⟨"com/example/antigonish/antigonish/Relation", "holds", "(J)Z"⟩ : MethodName) (head1 (Jvm.Cond.code (⟨"com/example/antigonish/antigonish/Relation", "holds", "(J)Z"⟩ : MethodName) prog_56_method_6_code 4 (some .boolean) :: ws) ({ frames := 1, cells := 0, slots := 0, locals := 12 } : Room)) (fun as_ U => as_ = #[(.ref a), (.long d)] ∧ Z.Warmed39 U.vm ∧ U.heap = h0) (fun _ _ _ _ _ => True) (fun _ U o U' => ∃ v L, o = .returned v ∧ own_Q_own_holds0 Z a d h0 n0 v U'.heap L ∧ FrameEnd U o U' L ({ frames := 1, cells := 0, slots := 0, locals := 12 } : Room).cells ({ frames := 1, cells := 0, slots := 0, locals := 12 } : Room).slots) := by
  refine MetFree.of_bodySF (plainFor_of_name own_pn2) hisR ?_
  intro p e s m args below meth c s₁ Bd hml0 hP hK
  obtain ⟨rfl, hZ, hh⟩ := hP
  have hx := Bd.exec
  have hby := Bd.bytes
  have hml : c.maxLocals = 4 := hml0
  have hown : s.vm.findClass "com/example/antigonish/antigonish/Relation" = some m.cls := findClass_of_methodNamed Bd.named
  have hnm := (name_of_methodNamed Bd.named Bd.method).1
  have X0 : Stand p l e ({ frames := 1, cells := 0, slots := 0, locals := 12 } : Room) s m #[(.ref a), (.long d)] below meth c s₁ [] 0 0 := Stand.of_body Bd
  have e0 : s₁.heap = h0 := by rw [← hh, Bd.state]; rfl
  have N0 := Fr.nil n0
  have pre0 : ∀ t, Steps p.tables e below (s₁.setTop (mkF m 0 #[.val (.ref a), .val (.long d), .second, .unset] [])) t → Steps p.tables e below (s₁.setTop (entryFrame m #[(.ref a), (.long d)] 4)) t := fun t k => castTop (own_ef3 m a d) k
  obtain ⟨cq1, kq1, q1a, q1b, q1c⟩ := isOf hZ e0 E
  obtain ⟨_, _, ⟨T1, L1, k1, n1⟩, -, X1, ⟨Lc1, hQ1, l1, y1, z1⟩, st1⟩ := X0.virtualBackUp hx (owner := "java/lang/Enum") (x := (⟨"com/example/antigonish/antigonish/Relation", "ordinal", "()I"⟩ : MethodName)) (y := (⟨"java/lang/Enum", "ordinal", "()I"⟩ : MethodName)) hown (mvT hZ (hw _ (List.mem_of_getElem? (i := 15) rfl))) (mvT hZ (hw _ (List.mem_of_getElem? (i := 16) rfl))) (mvT hZ (hw _ (List.mem_of_getElem? (i := 17) rfl))) (by decide) (mvT hZ (hw _ (List.mem_of_getElem? (i := 19) rfl))) (mvT hZ (hw _ (List.mem_of_getElem? (i := 18) rfl))) (backOf (W := 0) (own_ord l Z a0 hw [] a (0) h0 n0 Z0 F) hZ (hw _ (List.mem_of_getElem? (i := 21) rfl)) (hw _ (List.mem_of_getElem? (i := 20) rfl)) (by decide) (by decide)) q1a q1c (g := (mkF m 1 #[.val (.ref a), .val (.long d), .second, .unset] [(.ref a)])) rfl (by rw [hml]; rfl) (Steps.refl _) (argsL := []) (rest := []) (lenOf own_pd0 rfl) rfl (by show 2 * 0 + _ ≤ _; exact Nat.le_of_eq rfl) (hb hby own_d3_1) (fun _ _ => ⟨rfl, e0, (by decide : 0 + 0 ≤ _), (by decide : 0 + 0 ≤ _)⟩)
  dsimp only [Pt.U, Pt.locs, Pt.cells, Pt.slots] at X1 l1 y1 z1 st1 hQ1
  subst l1 y1 z1
  obtain ⟨rfl, N1q, e1⟩ := hQ1
  have N1 := Fr.app N0 N1q
  have pre3 : ∀ t, Steps p.tables e below (T1.setTop (mkF m 51 #[.val (.ref a), .val (.long d), .second, .unset] [(.int (if d < (0 : Int64) then (1 : Int32) else (0 : Int32)))])) t → Steps p.tables e below (s₁.setTop (entryFrame m #[(.ref a), (.long d)] 4)) t := fun t k => pre0 t (by
    show Steps p.tables e below (s₁.setTop (mkF m 0 #[.val (.ref a), .val (.long d), .second, .unset] [])) _
    refine XS.aloadN X0.here hx rfl (hb hby own_d3_0) rfl rfl ?_
    show Steps p.tables e below (s₁.setTop (mkF m 1 #[.val (.ref a), .val (.long d), .second, .unset] [(.ref a)])) _
    refine st1.trans ?_
    show Steps p.tables e below (T1.setTop (mkF m 4 #[.val (.ref a), .val (.long d), .second, .unset] [(.int (0 : Int32))])) _
    refine XS.tswIn X1.here hx rfl (pc0 := 4) (pc' := 40) (o := 36) rfl (hb hby own_d3_4) rfl (by decide) (by decide) (by decide) (by decide) ?_
    show Steps p.tables e below (T1.setTop (mkF m 40 #[.val (.ref a), .val (.long d), .second, .unset] [])) _
    refine XS.lloadN X1.here hx rfl (hb hby own_d3_40) rfl ?_
    show Steps p.tables e below (T1.setTop (mkF m 41 #[.val (.ref a), .val (.long d), .second, .unset] [(.long d)])) _
    refine XS.lconst X1.here hx rfl (hb hby own_d3_41) ?_
    show Steps p.tables e below (T1.setTop (mkF m 42 #[.val (.ref a), .val (.long d), .second, .unset] [(.long (0 : Int64)), (.long d)])) _
    refine XS.lcmp X1.here hx rfl (hb hby own_d3_42) rfl ?_
    show Steps p.tables e below (T1.setTop (mkF m 43 #[.val (.ref a), .val (.long d), .second, .unset] [(.int (lcmpW d (0 : Int64)))])) _
    by_cases hc2 : d < (0 : Int64)
    · skip
      refine XS.ifNo X1.here hx rfl (hb hby own_d3_43) rfl ((if0 _ _).trans (tlt ((lw_lt _ _).mpr hc2)).2.1) ?_
      show Steps p.tables e below (T1.setTop (mkF m 46 #[.val (.ref a), .val (.long d), .second, .unset] [])) _
      refine XS.iconst X1.here hx rfl (hb hby own_d3_46) ?_
      show Steps p.tables e below (T1.setTop (mkF m 47 #[.val (.ref a), .val (.long d), .second, .unset] [(.int (1 : Int32))])) _
      refine XS.goto X1.here hx rfl (pc0 := 47) (pc' := 51) rfl (hb hby own_d3_47) (by decide) (by decide) ?_
      exact castTop (congrArg (fun z_ => (mkF m 51 #[.val (.ref a), .val (.long d), .second, .unset] [(.int z_)])) (show (1 : Int32) = (if d < (0 : Int64) then (1 : Int32) else (0 : Int32)) from by rw [if_pos hc2])) k
    · skip
      refine XS.ifYes X1.here hx rfl (pc0 := 43) (pc' := 50) rfl (hb hby own_d3_43) rfl ((if0 _ _).trans (flt (fun q => hc2 ((lw_lt _ _).mp q))).2.1) (by decide) (by decide) ?_
      show Steps p.tables e below (T1.setTop (mkF m 50 #[.val (.ref a), .val (.long d), .second, .unset] [])) _
      refine XS.iconst X1.here hx rfl (hb hby own_d3_50) ?_
      exact castTop (congrArg (fun z_ => (mkF m 51 #[.val (.ref a), .val (.long d), .second, .unset] [(.int z_)])) (show (0 : Int32) = (if d < (0 : Int64) then (1 : Int32) else (0 : Int32)) from by rw [if_neg hc2])) k)
  obtain ⟨fs, hr, hrun, hended, hW, hsame⟩ := X1.leave (v := some (.int (nar .boolean (if d < (0 : Int64) then (1 : Int32) else (0 : Int32))))) (fun h => by rw [Bd.returns] at h; cases h)
  refine ⟨_, _, pre3 _ ?_, hrun, hended, _, _, rfl, ?_, ⟨_, rfl⟩, hW, hsame.mono (by decide) (by decide)⟩
  · show Steps p.tables e below (T1.setTop (mkF m 51 #[.val (.ref a), .val (.long d), .second, .unset] [(.int (if d < (0 : Int64) then (1 : Int32) else (0 : Int32)))])) _
    refine XS.istoreN X1.here hx rfl (hb hby own_d3_51) rfl (l' := #[.val (.ref a), .val (.long d), .second, .val (.int (if d < (0 : Int64) then (1 : Int32) else (0 : Int32)))]) rfl ?_
    show Steps p.tables e below (T1.setTop (mkF m 52 #[.val (.ref a), .val (.long d), .second, .val (.int (if d < (0 : Int64) then (1 : Int32) else (0 : Int32)))] [])) _
    refine XS.goto X1.here hx rfl (pc0 := 52) (pc' := 127) rfl (hb hby own_d3_52) (by decide) (by decide) ?_
    show Steps p.tables e below (T1.setTop (mkF m 127 #[.val (.ref a), .val (.long d), .second, .val (.int (if d < (0 : Int64) then (1 : Int32) else (0 : Int32)))] [])) _
    refine XS.iloadN X1.here hx rfl (hb hby own_d3_127) rfl ?_
    show Steps p.tables e below (T1.setTop (mkF m 128 #[.val (.ref a), .val (.long d), .second, .val (.int (if d < (0 : Int64) then (1 : Int32) else (0 : Int32)))] [(.int (if d < (0 : Int64) then (1 : Int32) else (0 : Int32)))])) _
    exact retN X1 hx (t := .boolean) Bd.returns (by simp) (hb hby own_d3_128) hr
  · show own_Q_own_holds0 Z a d h0 n0 _ T1.heap _
    rw [e1]
    exact ⟨own_iv (by rw [own_nb]), N1, rfl⟩
theorem own_d3_55 : decode prog_56_method_6_code 55 = .ok (.lload_n 1, 1) := by decide +kernel
theorem own_d3_56 : decode prog_56_method_6_code 56 = .ok (.lconst 0, 1) := by decide +kernel
theorem own_d3_57 : decode prog_56_method_6_code 57 = .ok (.lcmp, 1) := by decide +kernel
theorem own_d3_58 : decode prog_56_method_6_code 58 = .ok (.ifCond .gt 7, 3) := by decide +kernel
theorem own_d3_61 : decode prog_56_method_6_code 61 = .ok (.iconst 1, 1) := by decide +kernel
theorem own_d3_62 : decode prog_56_method_6_code 62 = .ok (.goto 4, 3) := by decide +kernel
theorem own_d3_65 : decode prog_56_method_6_code 65 = .ok (.iconst 0, 1) := by decide +kernel
theorem own_d3_66 : decode prog_56_method_6_code 66 = .ok (.istore_n 3, 1) := by decide +kernel
theorem own_d3_67 : decode prog_56_method_6_code 67 = .ok (.goto 60, 3) := by decide +kernel
def own_Q_own_holds1 (Z : State) (a : Addr) (d : Int64) (h0 : Heap) (n0 : Nat) (v : Option Value) (h : Heap) (L : List Loc) : Prop := v = some (.int (if ¬ ((0 : Int64) < d) then 1 else 0)) ∧ Fr n0 L ∧ h = h0
set_option maxRecDepth 65536 in
set_option maxHeartbeats 40000000 in
theorem own_holds1 (l : Launch) (Z : State) (a0 : Array Value) (hw : ∀ d ∈ tables_1, d.before a0 Z = true) (ws : List Jvm.Cond) (a : Addr) (d : Int64) (h0 : Heap) (n0 : Nat) (Z0 : n0 ≤ h0.size) (F : Fld Z h0 a "java/lang/Enum" "ordinal" "I" (.int (1))) (E : Exa Z h0 a "com/example/antigonish/antigonish/Relation") :
    MetFree l (⟨"com/example/antigonish/antigonish/Relation", "holds", "(J)Z"⟩ : MethodName) (head1 (Jvm.Cond.code (⟨"com/example/antigonish/antigonish/Relation", "holds", "(J)Z"⟩ : MethodName) prog_56_method_6_code 4 (some .boolean) :: ws) ({ frames := 1, cells := 0, slots := 0, locals := 12 } : Room)) (fun as_ U => as_ = #[(.ref a), (.long d)] ∧ Z.Warmed39 U.vm ∧ U.heap = h0) (fun _ _ _ _ _ => True) (fun _ U o U' => ∃ v L, o = .returned v ∧ own_Q_own_holds1 Z a d h0 n0 v U'.heap L ∧ FrameEnd U o U' L ({ frames := 1, cells := 0, slots := 0, locals := 12 } : Room).cells ({ frames := 1, cells := 0, slots := 0, locals := 12 } : Room).slots) := by
  refine MetFree.of_bodySF (plainFor_of_name own_pn2) hisR ?_
  intro p e s m args below meth c s₁ Bd hml0 hP hK
  obtain ⟨rfl, hZ, hh⟩ := hP
  have hx := Bd.exec
  have hby := Bd.bytes
  have hml : c.maxLocals = 4 := hml0
  have hown : s.vm.findClass "com/example/antigonish/antigonish/Relation" = some m.cls := findClass_of_methodNamed Bd.named
  have hnm := (name_of_methodNamed Bd.named Bd.method).1
  have X0 : Stand p l e ({ frames := 1, cells := 0, slots := 0, locals := 12 } : Room) s m #[(.ref a), (.long d)] below meth c s₁ [] 0 0 := Stand.of_body Bd
  have e0 : s₁.heap = h0 := by rw [← hh, Bd.state]; rfl
  have N0 := Fr.nil n0
  have pre0 : ∀ t, Steps p.tables e below (s₁.setTop (mkF m 0 #[.val (.ref a), .val (.long d), .second, .unset] [])) t → Steps p.tables e below (s₁.setTop (entryFrame m #[(.ref a), (.long d)] 4)) t := fun t k => castTop (own_ef3 m a d) k
  obtain ⟨cq1, kq1, q1a, q1b, q1c⟩ := isOf hZ e0 E
  obtain ⟨_, _, ⟨T1, L1, k1, n1⟩, -, X1, ⟨Lc1, hQ1, l1, y1, z1⟩, st1⟩ := X0.virtualBackUp hx (owner := "java/lang/Enum") (x := (⟨"com/example/antigonish/antigonish/Relation", "ordinal", "()I"⟩ : MethodName)) (y := (⟨"java/lang/Enum", "ordinal", "()I"⟩ : MethodName)) hown (mvT hZ (hw _ (List.mem_of_getElem? (i := 15) rfl))) (mvT hZ (hw _ (List.mem_of_getElem? (i := 16) rfl))) (mvT hZ (hw _ (List.mem_of_getElem? (i := 17) rfl))) (by decide) (mvT hZ (hw _ (List.mem_of_getElem? (i := 19) rfl))) (mvT hZ (hw _ (List.mem_of_getElem? (i := 18) rfl))) (backOf (W := 0) (own_ord l Z a0 hw [] a (1) h0 n0 Z0 F) hZ (hw _ (List.mem_of_getElem? (i := 21) rfl)) (hw _ (List.mem_of_getElem? (i := 20) rfl)) (by decide) (by decide)) q1a q1c (g := (mkF m 1 #[.val (.ref a), .val (.long d), .second, .unset] [(.ref a)])) rfl (by rw [hml]; rfl) (Steps.refl _) (argsL := []) (rest := []) (lenOf own_pd0 rfl) rfl (by show 2 * 0 + _ ≤ _; exact Nat.le_of_eq rfl) (hb hby own_d3_1) (fun _ _ => ⟨rfl, e0, (by decide : 0 + 0 ≤ _), (by decide : 0 + 0 ≤ _)⟩)
  dsimp only [Pt.U, Pt.locs, Pt.cells, Pt.slots] at X1 l1 y1 z1 st1 hQ1
  subst l1 y1 z1
  obtain ⟨rfl, N1q, e1⟩ := hQ1
  have N1 := Fr.app N0 N1q
  have pre3 : ∀ t, Steps p.tables e below (T1.setTop (mkF m 66 #[.val (.ref a), .val (.long d), .second, .unset] [(.int (if ¬ ((0 : Int64) < d) then (1 : Int32) else (0 : Int32)))])) t → Steps p.tables e below (s₁.setTop (entryFrame m #[(.ref a), (.long d)] 4)) t := fun t k => pre0 t (by
    show Steps p.tables e below (s₁.setTop (mkF m 0 #[.val (.ref a), .val (.long d), .second, .unset] [])) _
    refine XS.aloadN X0.here hx rfl (hb hby own_d3_0) rfl rfl ?_
    show Steps p.tables e below (s₁.setTop (mkF m 1 #[.val (.ref a), .val (.long d), .second, .unset] [(.ref a)])) _
    refine st1.trans ?_
    show Steps p.tables e below (T1.setTop (mkF m 4 #[.val (.ref a), .val (.long d), .second, .unset] [(.int (1 : Int32))])) _
    refine XS.tswIn X1.here hx rfl (pc0 := 4) (pc' := 55) (o := 51) rfl (hb hby own_d3_4) rfl (by decide) (by decide) (by decide) (by decide) ?_
    show Steps p.tables e below (T1.setTop (mkF m 55 #[.val (.ref a), .val (.long d), .second, .unset] [])) _
    refine XS.lloadN X1.here hx rfl (hb hby own_d3_55) rfl ?_
    show Steps p.tables e below (T1.setTop (mkF m 56 #[.val (.ref a), .val (.long d), .second, .unset] [(.long d)])) _
    refine XS.lconst X1.here hx rfl (hb hby own_d3_56) ?_
    show Steps p.tables e below (T1.setTop (mkF m 57 #[.val (.ref a), .val (.long d), .second, .unset] [(.long (0 : Int64)), (.long d)])) _
    refine XS.lcmp X1.here hx rfl (hb hby own_d3_57) rfl ?_
    show Steps p.tables e below (T1.setTop (mkF m 58 #[.val (.ref a), .val (.long d), .second, .unset] [(.int (lcmpW d (0 : Int64)))])) _
    by_cases hc2 : (0 : Int64) < d
    · skip
      refine XS.ifYes X1.here hx rfl (pc0 := 58) (pc' := 65) rfl (hb hby own_d3_58) rfl ((if0 _ _).trans (tlt ((lw_gt _ _).mpr hc2)).2.2.1) (by decide) (by decide) ?_
      show Steps p.tables e below (T1.setTop (mkF m 65 #[.val (.ref a), .val (.long d), .second, .unset] [])) _
      refine XS.iconst X1.here hx rfl (hb hby own_d3_65) ?_
      exact castTop (congrArg (fun z_ => (mkF m 66 #[.val (.ref a), .val (.long d), .second, .unset] [(.int z_)])) (show (0 : Int32) = (if ¬ ((0 : Int64) < d) then (1 : Int32) else (0 : Int32)) from by rw [if_neg (not_not_intro hc2)])) k
    · skip
      refine XS.ifNo X1.here hx rfl (hb hby own_d3_58) rfl ((if0 _ _).trans (flt (fun q => hc2 ((lw_gt _ _).mp q))).2.2.1) ?_
      show Steps p.tables e below (T1.setTop (mkF m 61 #[.val (.ref a), .val (.long d), .second, .unset] [])) _
      refine XS.iconst X1.here hx rfl (hb hby own_d3_61) ?_
      show Steps p.tables e below (T1.setTop (mkF m 62 #[.val (.ref a), .val (.long d), .second, .unset] [(.int (1 : Int32))])) _
      refine XS.goto X1.here hx rfl (pc0 := 62) (pc' := 66) rfl (hb hby own_d3_62) (by decide) (by decide) ?_
      exact castTop (congrArg (fun z_ => (mkF m 66 #[.val (.ref a), .val (.long d), .second, .unset] [(.int z_)])) (show (1 : Int32) = (if ¬ ((0 : Int64) < d) then (1 : Int32) else (0 : Int32)) from by rw [if_pos hc2])) k)
  obtain ⟨fs, hr, hrun, hended, hW, hsame⟩ := X1.leave (v := some (.int (nar .boolean (if ¬ ((0 : Int64) < d) then (1 : Int32) else (0 : Int32))))) (fun h => by rw [Bd.returns] at h; cases h)
  refine ⟨_, _, pre3 _ ?_, hrun, hended, _, _, rfl, ?_, ⟨_, rfl⟩, hW, hsame.mono (by decide) (by decide)⟩
  · show Steps p.tables e below (T1.setTop (mkF m 66 #[.val (.ref a), .val (.long d), .second, .unset] [(.int (if ¬ ((0 : Int64) < d) then (1 : Int32) else (0 : Int32)))])) _
    refine XS.istoreN X1.here hx rfl (hb hby own_d3_66) rfl (l' := #[.val (.ref a), .val (.long d), .second, .val (.int (if ¬ ((0 : Int64) < d) then (1 : Int32) else (0 : Int32)))]) rfl ?_
    show Steps p.tables e below (T1.setTop (mkF m 67 #[.val (.ref a), .val (.long d), .second, .val (.int (if ¬ ((0 : Int64) < d) then (1 : Int32) else (0 : Int32)))] [])) _
    refine XS.goto X1.here hx rfl (pc0 := 67) (pc' := 127) rfl (hb hby own_d3_67) (by decide) (by decide) ?_
    show Steps p.tables e below (T1.setTop (mkF m 127 #[.val (.ref a), .val (.long d), .second, .val (.int (if ¬ ((0 : Int64) < d) then (1 : Int32) else (0 : Int32)))] [])) _
    refine XS.iloadN X1.here hx rfl (hb hby own_d3_127) rfl ?_
    show Steps p.tables e below (T1.setTop (mkF m 128 #[.val (.ref a), .val (.long d), .second, .val (.int (if ¬ ((0 : Int64) < d) then (1 : Int32) else (0 : Int32)))] [(.int (if ¬ ((0 : Int64) < d) then (1 : Int32) else (0 : Int32)))])) _
    exact retN X1 hx (t := .boolean) Bd.returns (by simp) (hb hby own_d3_128) hr
  · show own_Q_own_holds1 Z a d h0 n0 _ T1.heap _
    rw [e1]
    exact ⟨own_iv (by rw [own_nb]), N1, rfl⟩
theorem own_d3_70 : decode prog_56_method_6_code 70 = .ok (.lload_n 1, 1) := by decide +kernel
theorem own_d3_71 : decode prog_56_method_6_code 71 = .ok (.lconst 0, 1) := by decide +kernel
theorem own_d3_72 : decode prog_56_method_6_code 72 = .ok (.lcmp, 1) := by decide +kernel
theorem own_d3_73 : decode prog_56_method_6_code 73 = .ok (.ifCond .lt 7, 3) := by decide +kernel
theorem own_d3_76 : decode prog_56_method_6_code 76 = .ok (.iconst 1, 1) := by decide +kernel
theorem own_d3_77 : decode prog_56_method_6_code 77 = .ok (.goto 4, 3) := by decide +kernel
theorem own_d3_80 : decode prog_56_method_6_code 80 = .ok (.iconst 0, 1) := by decide +kernel
theorem own_d3_81 : decode prog_56_method_6_code 81 = .ok (.istore_n 3, 1) := by decide +kernel
theorem own_d3_82 : decode prog_56_method_6_code 82 = .ok (.goto 45, 3) := by decide +kernel
def own_Q_own_holds2 (Z : State) (a : Addr) (d : Int64) (h0 : Heap) (n0 : Nat) (v : Option Value) (h : Heap) (L : List Loc) : Prop := v = some (.int (if ¬ (d < (0 : Int64)) then 1 else 0)) ∧ Fr n0 L ∧ h = h0
set_option maxRecDepth 65536 in
set_option maxHeartbeats 40000000 in
theorem own_holds2 (l : Launch) (Z : State) (a0 : Array Value) (hw : ∀ d ∈ tables_1, d.before a0 Z = true) (ws : List Jvm.Cond) (a : Addr) (d : Int64) (h0 : Heap) (n0 : Nat) (Z0 : n0 ≤ h0.size) (F : Fld Z h0 a "java/lang/Enum" "ordinal" "I" (.int (2))) (E : Exa Z h0 a "com/example/antigonish/antigonish/Relation") :
    MetFree l (⟨"com/example/antigonish/antigonish/Relation", "holds", "(J)Z"⟩ : MethodName) (head1 (Jvm.Cond.code (⟨"com/example/antigonish/antigonish/Relation", "holds", "(J)Z"⟩ : MethodName) prog_56_method_6_code 4 (some .boolean) :: ws) ({ frames := 1, cells := 0, slots := 0, locals := 12 } : Room)) (fun as_ U => as_ = #[(.ref a), (.long d)] ∧ Z.Warmed39 U.vm ∧ U.heap = h0) (fun _ _ _ _ _ => True) (fun _ U o U' => ∃ v L, o = .returned v ∧ own_Q_own_holds2 Z a d h0 n0 v U'.heap L ∧ FrameEnd U o U' L ({ frames := 1, cells := 0, slots := 0, locals := 12 } : Room).cells ({ frames := 1, cells := 0, slots := 0, locals := 12 } : Room).slots) := by
  refine MetFree.of_bodySF (plainFor_of_name own_pn2) hisR ?_
  intro p e s m args below meth c s₁ Bd hml0 hP hK
  obtain ⟨rfl, hZ, hh⟩ := hP
  have hx := Bd.exec
  have hby := Bd.bytes
  have hml : c.maxLocals = 4 := hml0
  have hown : s.vm.findClass "com/example/antigonish/antigonish/Relation" = some m.cls := findClass_of_methodNamed Bd.named
  have hnm := (name_of_methodNamed Bd.named Bd.method).1
  have X0 : Stand p l e ({ frames := 1, cells := 0, slots := 0, locals := 12 } : Room) s m #[(.ref a), (.long d)] below meth c s₁ [] 0 0 := Stand.of_body Bd
  have e0 : s₁.heap = h0 := by rw [← hh, Bd.state]; rfl
  have N0 := Fr.nil n0
  have pre0 : ∀ t, Steps p.tables e below (s₁.setTop (mkF m 0 #[.val (.ref a), .val (.long d), .second, .unset] [])) t → Steps p.tables e below (s₁.setTop (entryFrame m #[(.ref a), (.long d)] 4)) t := fun t k => castTop (own_ef3 m a d) k
  obtain ⟨cq1, kq1, q1a, q1b, q1c⟩ := isOf hZ e0 E
  obtain ⟨_, _, ⟨T1, L1, k1, n1⟩, -, X1, ⟨Lc1, hQ1, l1, y1, z1⟩, st1⟩ := X0.virtualBackUp hx (owner := "java/lang/Enum") (x := (⟨"com/example/antigonish/antigonish/Relation", "ordinal", "()I"⟩ : MethodName)) (y := (⟨"java/lang/Enum", "ordinal", "()I"⟩ : MethodName)) hown (mvT hZ (hw _ (List.mem_of_getElem? (i := 15) rfl))) (mvT hZ (hw _ (List.mem_of_getElem? (i := 16) rfl))) (mvT hZ (hw _ (List.mem_of_getElem? (i := 17) rfl))) (by decide) (mvT hZ (hw _ (List.mem_of_getElem? (i := 19) rfl))) (mvT hZ (hw _ (List.mem_of_getElem? (i := 18) rfl))) (backOf (W := 0) (own_ord l Z a0 hw [] a (2) h0 n0 Z0 F) hZ (hw _ (List.mem_of_getElem? (i := 21) rfl)) (hw _ (List.mem_of_getElem? (i := 20) rfl)) (by decide) (by decide)) q1a q1c (g := (mkF m 1 #[.val (.ref a), .val (.long d), .second, .unset] [(.ref a)])) rfl (by rw [hml]; rfl) (Steps.refl _) (argsL := []) (rest := []) (lenOf own_pd0 rfl) rfl (by show 2 * 0 + _ ≤ _; exact Nat.le_of_eq rfl) (hb hby own_d3_1) (fun _ _ => ⟨rfl, e0, (by decide : 0 + 0 ≤ _), (by decide : 0 + 0 ≤ _)⟩)
  dsimp only [Pt.U, Pt.locs, Pt.cells, Pt.slots] at X1 l1 y1 z1 st1 hQ1
  subst l1 y1 z1
  obtain ⟨rfl, N1q, e1⟩ := hQ1
  have N1 := Fr.app N0 N1q
  have pre3 : ∀ t, Steps p.tables e below (T1.setTop (mkF m 81 #[.val (.ref a), .val (.long d), .second, .unset] [(.int (if ¬ (d < (0 : Int64)) then (1 : Int32) else (0 : Int32)))])) t → Steps p.tables e below (s₁.setTop (entryFrame m #[(.ref a), (.long d)] 4)) t := fun t k => pre0 t (by
    show Steps p.tables e below (s₁.setTop (mkF m 0 #[.val (.ref a), .val (.long d), .second, .unset] [])) _
    refine XS.aloadN X0.here hx rfl (hb hby own_d3_0) rfl rfl ?_
    show Steps p.tables e below (s₁.setTop (mkF m 1 #[.val (.ref a), .val (.long d), .second, .unset] [(.ref a)])) _
    refine st1.trans ?_
    show Steps p.tables e below (T1.setTop (mkF m 4 #[.val (.ref a), .val (.long d), .second, .unset] [(.int (2 : Int32))])) _
    refine XS.tswIn X1.here hx rfl (pc0 := 4) (pc' := 70) (o := 66) rfl (hb hby own_d3_4) rfl (by decide) (by decide) (by decide) (by decide) ?_
    show Steps p.tables e below (T1.setTop (mkF m 70 #[.val (.ref a), .val (.long d), .second, .unset] [])) _
    refine XS.lloadN X1.here hx rfl (hb hby own_d3_70) rfl ?_
    show Steps p.tables e below (T1.setTop (mkF m 71 #[.val (.ref a), .val (.long d), .second, .unset] [(.long d)])) _
    refine XS.lconst X1.here hx rfl (hb hby own_d3_71) ?_
    show Steps p.tables e below (T1.setTop (mkF m 72 #[.val (.ref a), .val (.long d), .second, .unset] [(.long (0 : Int64)), (.long d)])) _
    refine XS.lcmp X1.here hx rfl (hb hby own_d3_72) rfl ?_
    show Steps p.tables e below (T1.setTop (mkF m 73 #[.val (.ref a), .val (.long d), .second, .unset] [(.int (lcmpW d (0 : Int64)))])) _
    by_cases hc2 : d < (0 : Int64)
    · skip
      refine XS.ifYes X1.here hx rfl (pc0 := 73) (pc' := 80) rfl (hb hby own_d3_73) rfl ((if0 _ _).trans (tlt ((lw_lt _ _).mpr hc2)).1) (by decide) (by decide) ?_
      show Steps p.tables e below (T1.setTop (mkF m 80 #[.val (.ref a), .val (.long d), .second, .unset] [])) _
      refine XS.iconst X1.here hx rfl (hb hby own_d3_80) ?_
      exact castTop (congrArg (fun z_ => (mkF m 81 #[.val (.ref a), .val (.long d), .second, .unset] [(.int z_)])) (show (0 : Int32) = (if ¬ (d < (0 : Int64)) then (1 : Int32) else (0 : Int32)) from by rw [if_neg (not_not_intro hc2)])) k
    · skip
      refine XS.ifNo X1.here hx rfl (hb hby own_d3_73) rfl ((if0 _ _).trans (flt (fun q => hc2 ((lw_lt _ _).mp q))).1) ?_
      show Steps p.tables e below (T1.setTop (mkF m 76 #[.val (.ref a), .val (.long d), .second, .unset] [])) _
      refine XS.iconst X1.here hx rfl (hb hby own_d3_76) ?_
      show Steps p.tables e below (T1.setTop (mkF m 77 #[.val (.ref a), .val (.long d), .second, .unset] [(.int (1 : Int32))])) _
      refine XS.goto X1.here hx rfl (pc0 := 77) (pc' := 81) rfl (hb hby own_d3_77) (by decide) (by decide) ?_
      exact castTop (congrArg (fun z_ => (mkF m 81 #[.val (.ref a), .val (.long d), .second, .unset] [(.int z_)])) (show (1 : Int32) = (if ¬ (d < (0 : Int64)) then (1 : Int32) else (0 : Int32)) from by rw [if_pos hc2])) k)
  obtain ⟨fs, hr, hrun, hended, hW, hsame⟩ := X1.leave (v := some (.int (nar .boolean (if ¬ (d < (0 : Int64)) then (1 : Int32) else (0 : Int32))))) (fun h => by rw [Bd.returns] at h; cases h)
  refine ⟨_, _, pre3 _ ?_, hrun, hended, _, _, rfl, ?_, ⟨_, rfl⟩, hW, hsame.mono (by decide) (by decide)⟩
  · show Steps p.tables e below (T1.setTop (mkF m 81 #[.val (.ref a), .val (.long d), .second, .unset] [(.int (if ¬ (d < (0 : Int64)) then (1 : Int32) else (0 : Int32)))])) _
    refine XS.istoreN X1.here hx rfl (hb hby own_d3_81) rfl (l' := #[.val (.ref a), .val (.long d), .second, .val (.int (if ¬ (d < (0 : Int64)) then (1 : Int32) else (0 : Int32)))]) rfl ?_
    show Steps p.tables e below (T1.setTop (mkF m 82 #[.val (.ref a), .val (.long d), .second, .val (.int (if ¬ (d < (0 : Int64)) then (1 : Int32) else (0 : Int32)))] [])) _
    refine XS.goto X1.here hx rfl (pc0 := 82) (pc' := 127) rfl (hb hby own_d3_82) (by decide) (by decide) ?_
    show Steps p.tables e below (T1.setTop (mkF m 127 #[.val (.ref a), .val (.long d), .second, .val (.int (if ¬ (d < (0 : Int64)) then (1 : Int32) else (0 : Int32)))] [])) _
    refine XS.iloadN X1.here hx rfl (hb hby own_d3_127) rfl ?_
    show Steps p.tables e below (T1.setTop (mkF m 128 #[.val (.ref a), .val (.long d), .second, .val (.int (if ¬ (d < (0 : Int64)) then (1 : Int32) else (0 : Int32)))] [(.int (if ¬ (d < (0 : Int64)) then (1 : Int32) else (0 : Int32)))])) _
    exact retN X1 hx (t := .boolean) Bd.returns (by simp) (hb hby own_d3_128) hr
  · show own_Q_own_holds2 Z a d h0 n0 _ T1.heap _
    rw [e1]
    exact ⟨own_iv (by rw [own_nb]), N1, rfl⟩
theorem own_d3_85 : decode prog_56_method_6_code 85 = .ok (.lload_n 1, 1) := by decide +kernel
theorem own_d3_86 : decode prog_56_method_6_code 86 = .ok (.lconst 0, 1) := by decide +kernel
theorem own_d3_87 : decode prog_56_method_6_code 87 = .ok (.lcmp, 1) := by decide +kernel
theorem own_d3_88 : decode prog_56_method_6_code 88 = .ok (.ifCond .le 7, 3) := by decide +kernel
theorem own_d3_91 : decode prog_56_method_6_code 91 = .ok (.iconst 1, 1) := by decide +kernel
theorem own_d3_92 : decode prog_56_method_6_code 92 = .ok (.goto 4, 3) := by decide +kernel
theorem own_d3_95 : decode prog_56_method_6_code 95 = .ok (.iconst 0, 1) := by decide +kernel
theorem own_d3_96 : decode prog_56_method_6_code 96 = .ok (.istore_n 3, 1) := by decide +kernel
theorem own_d3_97 : decode prog_56_method_6_code 97 = .ok (.goto 30, 3) := by decide +kernel
def own_Q_own_holds3 (Z : State) (a : Addr) (d : Int64) (h0 : Heap) (n0 : Nat) (v : Option Value) (h : Heap) (L : List Loc) : Prop := v = some (.int (if (0 : Int64) < d then 1 else 0)) ∧ Fr n0 L ∧ h = h0
set_option maxRecDepth 65536 in
set_option maxHeartbeats 40000000 in
theorem own_holds3 (l : Launch) (Z : State) (a0 : Array Value) (hw : ∀ d ∈ tables_1, d.before a0 Z = true) (ws : List Jvm.Cond) (a : Addr) (d : Int64) (h0 : Heap) (n0 : Nat) (Z0 : n0 ≤ h0.size) (F : Fld Z h0 a "java/lang/Enum" "ordinal" "I" (.int (3))) (E : Exa Z h0 a "com/example/antigonish/antigonish/Relation") :
    MetFree l (⟨"com/example/antigonish/antigonish/Relation", "holds", "(J)Z"⟩ : MethodName) (head1 (Jvm.Cond.code (⟨"com/example/antigonish/antigonish/Relation", "holds", "(J)Z"⟩ : MethodName) prog_56_method_6_code 4 (some .boolean) :: ws) ({ frames := 1, cells := 0, slots := 0, locals := 12 } : Room)) (fun as_ U => as_ = #[(.ref a), (.long d)] ∧ Z.Warmed39 U.vm ∧ U.heap = h0) (fun _ _ _ _ _ => True) (fun _ U o U' => ∃ v L, o = .returned v ∧ own_Q_own_holds3 Z a d h0 n0 v U'.heap L ∧ FrameEnd U o U' L ({ frames := 1, cells := 0, slots := 0, locals := 12 } : Room).cells ({ frames := 1, cells := 0, slots := 0, locals := 12 } : Room).slots) := by
  refine MetFree.of_bodySF (plainFor_of_name own_pn2) hisR ?_
  intro p e s m args below meth c s₁ Bd hml0 hP hK
  obtain ⟨rfl, hZ, hh⟩ := hP
  have hx := Bd.exec
  have hby := Bd.bytes
  have hml : c.maxLocals = 4 := hml0
  have hown : s.vm.findClass "com/example/antigonish/antigonish/Relation" = some m.cls := findClass_of_methodNamed Bd.named
  have hnm := (name_of_methodNamed Bd.named Bd.method).1
  have X0 : Stand p l e ({ frames := 1, cells := 0, slots := 0, locals := 12 } : Room) s m #[(.ref a), (.long d)] below meth c s₁ [] 0 0 := Stand.of_body Bd
  have e0 : s₁.heap = h0 := by rw [← hh, Bd.state]; rfl
  have N0 := Fr.nil n0
  have pre0 : ∀ t, Steps p.tables e below (s₁.setTop (mkF m 0 #[.val (.ref a), .val (.long d), .second, .unset] [])) t → Steps p.tables e below (s₁.setTop (entryFrame m #[(.ref a), (.long d)] 4)) t := fun t k => castTop (own_ef3 m a d) k
  obtain ⟨cq1, kq1, q1a, q1b, q1c⟩ := isOf hZ e0 E
  obtain ⟨_, _, ⟨T1, L1, k1, n1⟩, -, X1, ⟨Lc1, hQ1, l1, y1, z1⟩, st1⟩ := X0.virtualBackUp hx (owner := "java/lang/Enum") (x := (⟨"com/example/antigonish/antigonish/Relation", "ordinal", "()I"⟩ : MethodName)) (y := (⟨"java/lang/Enum", "ordinal", "()I"⟩ : MethodName)) hown (mvT hZ (hw _ (List.mem_of_getElem? (i := 15) rfl))) (mvT hZ (hw _ (List.mem_of_getElem? (i := 16) rfl))) (mvT hZ (hw _ (List.mem_of_getElem? (i := 17) rfl))) (by decide) (mvT hZ (hw _ (List.mem_of_getElem? (i := 19) rfl))) (mvT hZ (hw _ (List.mem_of_getElem? (i := 18) rfl))) (backOf (W := 0) (own_ord l Z a0 hw [] a (3) h0 n0 Z0 F) hZ (hw _ (List.mem_of_getElem? (i := 21) rfl)) (hw _ (List.mem_of_getElem? (i := 20) rfl)) (by decide) (by decide)) q1a q1c (g := (mkF m 1 #[.val (.ref a), .val (.long d), .second, .unset] [(.ref a)])) rfl (by rw [hml]; rfl) (Steps.refl _) (argsL := []) (rest := []) (lenOf own_pd0 rfl) rfl (by show 2 * 0 + _ ≤ _; exact Nat.le_of_eq rfl) (hb hby own_d3_1) (fun _ _ => ⟨rfl, e0, (by decide : 0 + 0 ≤ _), (by decide : 0 + 0 ≤ _)⟩)
  dsimp only [Pt.U, Pt.locs, Pt.cells, Pt.slots] at X1 l1 y1 z1 st1 hQ1
  subst l1 y1 z1
  obtain ⟨rfl, N1q, e1⟩ := hQ1
  have N1 := Fr.app N0 N1q
  have pre3 : ∀ t, Steps p.tables e below (T1.setTop (mkF m 96 #[.val (.ref a), .val (.long d), .second, .unset] [(.int (if (0 : Int64) < d then (1 : Int32) else (0 : Int32)))])) t → Steps p.tables e below (s₁.setTop (entryFrame m #[(.ref a), (.long d)] 4)) t := fun t k => pre0 t (by
    show Steps p.tables e below (s₁.setTop (mkF m 0 #[.val (.ref a), .val (.long d), .second, .unset] [])) _
    refine XS.aloadN X0.here hx rfl (hb hby own_d3_0) rfl rfl ?_
    show Steps p.tables e below (s₁.setTop (mkF m 1 #[.val (.ref a), .val (.long d), .second, .unset] [(.ref a)])) _
    refine st1.trans ?_
    show Steps p.tables e below (T1.setTop (mkF m 4 #[.val (.ref a), .val (.long d), .second, .unset] [(.int (3 : Int32))])) _
    refine XS.tswIn X1.here hx rfl (pc0 := 4) (pc' := 85) (o := 81) rfl (hb hby own_d3_4) rfl (by decide) (by decide) (by decide) (by decide) ?_
    show Steps p.tables e below (T1.setTop (mkF m 85 #[.val (.ref a), .val (.long d), .second, .unset] [])) _
    refine XS.lloadN X1.here hx rfl (hb hby own_d3_85) rfl ?_
    show Steps p.tables e below (T1.setTop (mkF m 86 #[.val (.ref a), .val (.long d), .second, .unset] [(.long d)])) _
    refine XS.lconst X1.here hx rfl (hb hby own_d3_86) ?_
    show Steps p.tables e below (T1.setTop (mkF m 87 #[.val (.ref a), .val (.long d), .second, .unset] [(.long (0 : Int64)), (.long d)])) _
    refine XS.lcmp X1.here hx rfl (hb hby own_d3_87) rfl ?_
    show Steps p.tables e below (T1.setTop (mkF m 88 #[.val (.ref a), .val (.long d), .second, .unset] [(.int (lcmpW d (0 : Int64)))])) _
    by_cases hc2 : (0 : Int64) < d
    · skip
      refine XS.ifNo X1.here hx rfl (hb hby own_d3_88) rfl ((if0 _ _).trans (tlt ((lw_gt _ _).mpr hc2)).2.2.2) ?_
      show Steps p.tables e below (T1.setTop (mkF m 91 #[.val (.ref a), .val (.long d), .second, .unset] [])) _
      refine XS.iconst X1.here hx rfl (hb hby own_d3_91) ?_
      show Steps p.tables e below (T1.setTop (mkF m 92 #[.val (.ref a), .val (.long d), .second, .unset] [(.int (1 : Int32))])) _
      refine XS.goto X1.here hx rfl (pc0 := 92) (pc' := 96) rfl (hb hby own_d3_92) (by decide) (by decide) ?_
      exact castTop (congrArg (fun z_ => (mkF m 96 #[.val (.ref a), .val (.long d), .second, .unset] [(.int z_)])) (show (1 : Int32) = (if (0 : Int64) < d then (1 : Int32) else (0 : Int32)) from by rw [if_pos hc2])) k
    · skip
      refine XS.ifYes X1.here hx rfl (pc0 := 88) (pc' := 95) rfl (hb hby own_d3_88) rfl ((if0 _ _).trans (flt (fun q => hc2 ((lw_gt _ _).mp q))).2.2.2) (by decide) (by decide) ?_
      show Steps p.tables e below (T1.setTop (mkF m 95 #[.val (.ref a), .val (.long d), .second, .unset] [])) _
      refine XS.iconst X1.here hx rfl (hb hby own_d3_95) ?_
      exact castTop (congrArg (fun z_ => (mkF m 96 #[.val (.ref a), .val (.long d), .second, .unset] [(.int z_)])) (show (0 : Int32) = (if (0 : Int64) < d then (1 : Int32) else (0 : Int32)) from by rw [if_neg hc2])) k)
  obtain ⟨fs, hr, hrun, hended, hW, hsame⟩ := X1.leave (v := some (.int (nar .boolean (if (0 : Int64) < d then (1 : Int32) else (0 : Int32))))) (fun h => by rw [Bd.returns] at h; cases h)
  refine ⟨_, _, pre3 _ ?_, hrun, hended, _, _, rfl, ?_, ⟨_, rfl⟩, hW, hsame.mono (by decide) (by decide)⟩
  · show Steps p.tables e below (T1.setTop (mkF m 96 #[.val (.ref a), .val (.long d), .second, .unset] [(.int (if (0 : Int64) < d then (1 : Int32) else (0 : Int32)))])) _
    refine XS.istoreN X1.here hx rfl (hb hby own_d3_96) rfl (l' := #[.val (.ref a), .val (.long d), .second, .val (.int (if (0 : Int64) < d then (1 : Int32) else (0 : Int32)))]) rfl ?_
    show Steps p.tables e below (T1.setTop (mkF m 97 #[.val (.ref a), .val (.long d), .second, .val (.int (if (0 : Int64) < d then (1 : Int32) else (0 : Int32)))] [])) _
    refine XS.goto X1.here hx rfl (pc0 := 97) (pc' := 127) rfl (hb hby own_d3_97) (by decide) (by decide) ?_
    show Steps p.tables e below (T1.setTop (mkF m 127 #[.val (.ref a), .val (.long d), .second, .val (.int (if (0 : Int64) < d then (1 : Int32) else (0 : Int32)))] [])) _
    refine XS.iloadN X1.here hx rfl (hb hby own_d3_127) rfl ?_
    show Steps p.tables e below (T1.setTop (mkF m 128 #[.val (.ref a), .val (.long d), .second, .val (.int (if (0 : Int64) < d then (1 : Int32) else (0 : Int32)))] [(.int (if (0 : Int64) < d then (1 : Int32) else (0 : Int32)))])) _
    exact retN X1 hx (t := .boolean) Bd.returns (by simp) (hb hby own_d3_128) hr
  · show own_Q_own_holds3 Z a d h0 n0 _ T1.heap _
    rw [e1]
    exact ⟨own_iv (by rw [own_nb]), N1, rfl⟩
theorem own_d3_100 : decode prog_56_method_6_code 100 = .ok (.lload_n 1, 1) := by decide +kernel
theorem own_d3_101 : decode prog_56_method_6_code 101 = .ok (.lconst 0, 1) := by decide +kernel
theorem own_d3_102 : decode prog_56_method_6_code 102 = .ok (.lcmp, 1) := by decide +kernel
theorem own_d3_103 : decode prog_56_method_6_code 103 = .ok (.ifCond .ne 7, 3) := by decide +kernel
theorem own_d3_106 : decode prog_56_method_6_code 106 = .ok (.iconst 1, 1) := by decide +kernel
theorem own_d3_107 : decode prog_56_method_6_code 107 = .ok (.goto 4, 3) := by decide +kernel
theorem own_d3_110 : decode prog_56_method_6_code 110 = .ok (.iconst 0, 1) := by decide +kernel
theorem own_d3_111 : decode prog_56_method_6_code 111 = .ok (.istore_n 3, 1) := by decide +kernel
theorem own_d3_112 : decode prog_56_method_6_code 112 = .ok (.goto 15, 3) := by decide +kernel
def own_Q_own_holds4 (Z : State) (a : Addr) (d : Int64) (h0 : Heap) (n0 : Nat) (v : Option Value) (h : Heap) (L : List Loc) : Prop := v = some (.int (if d = (0 : Int64) then 1 else 0)) ∧ Fr n0 L ∧ h = h0
set_option maxRecDepth 65536 in
set_option maxHeartbeats 40000000 in
theorem own_holds4 (l : Launch) (Z : State) (a0 : Array Value) (hw : ∀ d ∈ tables_1, d.before a0 Z = true) (ws : List Jvm.Cond) (a : Addr) (d : Int64) (h0 : Heap) (n0 : Nat) (Z0 : n0 ≤ h0.size) (F : Fld Z h0 a "java/lang/Enum" "ordinal" "I" (.int (4))) (E : Exa Z h0 a "com/example/antigonish/antigonish/Relation") :
    MetFree l (⟨"com/example/antigonish/antigonish/Relation", "holds", "(J)Z"⟩ : MethodName) (head1 (Jvm.Cond.code (⟨"com/example/antigonish/antigonish/Relation", "holds", "(J)Z"⟩ : MethodName) prog_56_method_6_code 4 (some .boolean) :: ws) ({ frames := 1, cells := 0, slots := 0, locals := 12 } : Room)) (fun as_ U => as_ = #[(.ref a), (.long d)] ∧ Z.Warmed39 U.vm ∧ U.heap = h0) (fun _ _ _ _ _ => True) (fun _ U o U' => ∃ v L, o = .returned v ∧ own_Q_own_holds4 Z a d h0 n0 v U'.heap L ∧ FrameEnd U o U' L ({ frames := 1, cells := 0, slots := 0, locals := 12 } : Room).cells ({ frames := 1, cells := 0, slots := 0, locals := 12 } : Room).slots) := by
  refine MetFree.of_bodySF (plainFor_of_name own_pn2) hisR ?_
  intro p e s m args below meth c s₁ Bd hml0 hP hK
  obtain ⟨rfl, hZ, hh⟩ := hP
  have hx := Bd.exec
  have hby := Bd.bytes
  have hml : c.maxLocals = 4 := hml0
  have hown : s.vm.findClass "com/example/antigonish/antigonish/Relation" = some m.cls := findClass_of_methodNamed Bd.named
  have hnm := (name_of_methodNamed Bd.named Bd.method).1
  have X0 : Stand p l e ({ frames := 1, cells := 0, slots := 0, locals := 12 } : Room) s m #[(.ref a), (.long d)] below meth c s₁ [] 0 0 := Stand.of_body Bd
  have e0 : s₁.heap = h0 := by rw [← hh, Bd.state]; rfl
  have N0 := Fr.nil n0
  have pre0 : ∀ t, Steps p.tables e below (s₁.setTop (mkF m 0 #[.val (.ref a), .val (.long d), .second, .unset] [])) t → Steps p.tables e below (s₁.setTop (entryFrame m #[(.ref a), (.long d)] 4)) t := fun t k => castTop (own_ef3 m a d) k
  obtain ⟨cq1, kq1, q1a, q1b, q1c⟩ := isOf hZ e0 E
  obtain ⟨_, _, ⟨T1, L1, k1, n1⟩, -, X1, ⟨Lc1, hQ1, l1, y1, z1⟩, st1⟩ := X0.virtualBackUp hx (owner := "java/lang/Enum") (x := (⟨"com/example/antigonish/antigonish/Relation", "ordinal", "()I"⟩ : MethodName)) (y := (⟨"java/lang/Enum", "ordinal", "()I"⟩ : MethodName)) hown (mvT hZ (hw _ (List.mem_of_getElem? (i := 15) rfl))) (mvT hZ (hw _ (List.mem_of_getElem? (i := 16) rfl))) (mvT hZ (hw _ (List.mem_of_getElem? (i := 17) rfl))) (by decide) (mvT hZ (hw _ (List.mem_of_getElem? (i := 19) rfl))) (mvT hZ (hw _ (List.mem_of_getElem? (i := 18) rfl))) (backOf (W := 0) (own_ord l Z a0 hw [] a (4) h0 n0 Z0 F) hZ (hw _ (List.mem_of_getElem? (i := 21) rfl)) (hw _ (List.mem_of_getElem? (i := 20) rfl)) (by decide) (by decide)) q1a q1c (g := (mkF m 1 #[.val (.ref a), .val (.long d), .second, .unset] [(.ref a)])) rfl (by rw [hml]; rfl) (Steps.refl _) (argsL := []) (rest := []) (lenOf own_pd0 rfl) rfl (by show 2 * 0 + _ ≤ _; exact Nat.le_of_eq rfl) (hb hby own_d3_1) (fun _ _ => ⟨rfl, e0, (by decide : 0 + 0 ≤ _), (by decide : 0 + 0 ≤ _)⟩)
  dsimp only [Pt.U, Pt.locs, Pt.cells, Pt.slots] at X1 l1 y1 z1 st1 hQ1
  subst l1 y1 z1
  obtain ⟨rfl, N1q, e1⟩ := hQ1
  have N1 := Fr.app N0 N1q
  have pre3 : ∀ t, Steps p.tables e below (T1.setTop (mkF m 111 #[.val (.ref a), .val (.long d), .second, .unset] [(.int (if d = (0 : Int64) then (1 : Int32) else (0 : Int32)))])) t → Steps p.tables e below (s₁.setTop (entryFrame m #[(.ref a), (.long d)] 4)) t := fun t k => pre0 t (by
    show Steps p.tables e below (s₁.setTop (mkF m 0 #[.val (.ref a), .val (.long d), .second, .unset] [])) _
    refine XS.aloadN X0.here hx rfl (hb hby own_d3_0) rfl rfl ?_
    show Steps p.tables e below (s₁.setTop (mkF m 1 #[.val (.ref a), .val (.long d), .second, .unset] [(.ref a)])) _
    refine st1.trans ?_
    show Steps p.tables e below (T1.setTop (mkF m 4 #[.val (.ref a), .val (.long d), .second, .unset] [(.int (4 : Int32))])) _
    refine XS.tswIn X1.here hx rfl (pc0 := 4) (pc' := 100) (o := 96) rfl (hb hby own_d3_4) rfl (by decide) (by decide) (by decide) (by decide) ?_
    show Steps p.tables e below (T1.setTop (mkF m 100 #[.val (.ref a), .val (.long d), .second, .unset] [])) _
    refine XS.lloadN X1.here hx rfl (hb hby own_d3_100) rfl ?_
    show Steps p.tables e below (T1.setTop (mkF m 101 #[.val (.ref a), .val (.long d), .second, .unset] [(.long d)])) _
    refine XS.lconst X1.here hx rfl (hb hby own_d3_101) ?_
    show Steps p.tables e below (T1.setTop (mkF m 102 #[.val (.ref a), .val (.long d), .second, .unset] [(.long (0 : Int64)), (.long d)])) _
    refine XS.lcmp X1.here hx rfl (hb hby own_d3_102) rfl ?_
    show Steps p.tables e below (T1.setTop (mkF m 103 #[.val (.ref a), .val (.long d), .second, .unset] [(.int (lcmpW d (0 : Int64)))])) _
    by_cases hc2 : d = (0 : Int64)
    · skip
      refine XS.ifNo X1.here hx rfl (hb hby own_d3_103) rfl ((if0 _ _).trans (teq ((lw_eq _ _).mpr hc2)).2) ?_
      show Steps p.tables e below (T1.setTop (mkF m 106 #[.val (.ref a), .val (.long d), .second, .unset] [])) _
      refine XS.iconst X1.here hx rfl (hb hby own_d3_106) ?_
      show Steps p.tables e below (T1.setTop (mkF m 107 #[.val (.ref a), .val (.long d), .second, .unset] [(.int (1 : Int32))])) _
      refine XS.goto X1.here hx rfl (pc0 := 107) (pc' := 111) rfl (hb hby own_d3_107) (by decide) (by decide) ?_
      exact castTop (congrArg (fun z_ => (mkF m 111 #[.val (.ref a), .val (.long d), .second, .unset] [(.int z_)])) (show (1 : Int32) = (if d = (0 : Int64) then (1 : Int32) else (0 : Int32)) from by rw [if_pos hc2])) k
    · skip
      refine XS.ifYes X1.here hx rfl (pc0 := 103) (pc' := 110) rfl (hb hby own_d3_103) rfl ((if0 _ _).trans (feq (fun q => hc2 ((lw_eq _ _).mp q))).2) (by decide) (by decide) ?_
      show Steps p.tables e below (T1.setTop (mkF m 110 #[.val (.ref a), .val (.long d), .second, .unset] [])) _
      refine XS.iconst X1.here hx rfl (hb hby own_d3_110) ?_
      exact castTop (congrArg (fun z_ => (mkF m 111 #[.val (.ref a), .val (.long d), .second, .unset] [(.int z_)])) (show (0 : Int32) = (if d = (0 : Int64) then (1 : Int32) else (0 : Int32)) from by rw [if_neg hc2])) k)
  obtain ⟨fs, hr, hrun, hended, hW, hsame⟩ := X1.leave (v := some (.int (nar .boolean (if d = (0 : Int64) then (1 : Int32) else (0 : Int32))))) (fun h => by rw [Bd.returns] at h; cases h)
  refine ⟨_, _, pre3 _ ?_, hrun, hended, _, _, rfl, ?_, ⟨_, rfl⟩, hW, hsame.mono (by decide) (by decide)⟩
  · show Steps p.tables e below (T1.setTop (mkF m 111 #[.val (.ref a), .val (.long d), .second, .unset] [(.int (if d = (0 : Int64) then (1 : Int32) else (0 : Int32)))])) _
    refine XS.istoreN X1.here hx rfl (hb hby own_d3_111) rfl (l' := #[.val (.ref a), .val (.long d), .second, .val (.int (if d = (0 : Int64) then (1 : Int32) else (0 : Int32)))]) rfl ?_
    show Steps p.tables e below (T1.setTop (mkF m 112 #[.val (.ref a), .val (.long d), .second, .val (.int (if d = (0 : Int64) then (1 : Int32) else (0 : Int32)))] [])) _
    refine XS.goto X1.here hx rfl (pc0 := 112) (pc' := 127) rfl (hb hby own_d3_112) (by decide) (by decide) ?_
    show Steps p.tables e below (T1.setTop (mkF m 127 #[.val (.ref a), .val (.long d), .second, .val (.int (if d = (0 : Int64) then (1 : Int32) else (0 : Int32)))] [])) _
    refine XS.iloadN X1.here hx rfl (hb hby own_d3_127) rfl ?_
    show Steps p.tables e below (T1.setTop (mkF m 128 #[.val (.ref a), .val (.long d), .second, .val (.int (if d = (0 : Int64) then (1 : Int32) else (0 : Int32)))] [(.int (if d = (0 : Int64) then (1 : Int32) else (0 : Int32)))])) _
    exact retN X1 hx (t := .boolean) Bd.returns (by simp) (hb hby own_d3_128) hr
  · show own_Q_own_holds4 Z a d h0 n0 _ T1.heap _
    rw [e1]
    exact ⟨own_iv (by rw [own_nb]), N1, rfl⟩
theorem own_d3_115 : decode prog_56_method_6_code 115 = .ok (.lload_n 1, 1) := by decide +kernel
theorem own_d3_116 : decode prog_56_method_6_code 116 = .ok (.lconst 0, 1) := by decide +kernel
theorem own_d3_117 : decode prog_56_method_6_code 117 = .ok (.lcmp, 1) := by decide +kernel
theorem own_d3_118 : decode prog_56_method_6_code 118 = .ok (.ifCond .eq 7, 3) := by decide +kernel
theorem own_d3_121 : decode prog_56_method_6_code 121 = .ok (.iconst 1, 1) := by decide +kernel
theorem own_d3_122 : decode prog_56_method_6_code 122 = .ok (.goto 4, 3) := by decide +kernel
theorem own_d3_125 : decode prog_56_method_6_code 125 = .ok (.iconst 0, 1) := by decide +kernel
theorem own_d3_126 : decode prog_56_method_6_code 126 = .ok (.istore_n 3, 1) := by decide +kernel
def own_Q_own_holds5 (Z : State) (a : Addr) (d : Int64) (h0 : Heap) (n0 : Nat) (v : Option Value) (h : Heap) (L : List Loc) : Prop := v = some (.int (if ¬ (d = (0 : Int64)) then 1 else 0)) ∧ Fr n0 L ∧ h = h0
set_option maxRecDepth 65536 in
set_option maxHeartbeats 40000000 in
theorem own_holds5 (l : Launch) (Z : State) (a0 : Array Value) (hw : ∀ d ∈ tables_1, d.before a0 Z = true) (ws : List Jvm.Cond) (a : Addr) (d : Int64) (h0 : Heap) (n0 : Nat) (Z0 : n0 ≤ h0.size) (F : Fld Z h0 a "java/lang/Enum" "ordinal" "I" (.int (5))) (E : Exa Z h0 a "com/example/antigonish/antigonish/Relation") :
    MetFree l (⟨"com/example/antigonish/antigonish/Relation", "holds", "(J)Z"⟩ : MethodName) (head1 (Jvm.Cond.code (⟨"com/example/antigonish/antigonish/Relation", "holds", "(J)Z"⟩ : MethodName) prog_56_method_6_code 4 (some .boolean) :: ws) ({ frames := 1, cells := 0, slots := 0, locals := 12 } : Room)) (fun as_ U => as_ = #[(.ref a), (.long d)] ∧ Z.Warmed39 U.vm ∧ U.heap = h0) (fun _ _ _ _ _ => True) (fun _ U o U' => ∃ v L, o = .returned v ∧ own_Q_own_holds5 Z a d h0 n0 v U'.heap L ∧ FrameEnd U o U' L ({ frames := 1, cells := 0, slots := 0, locals := 12 } : Room).cells ({ frames := 1, cells := 0, slots := 0, locals := 12 } : Room).slots) := by
  refine MetFree.of_bodySF (plainFor_of_name own_pn2) hisR ?_
  intro p e s m args below meth c s₁ Bd hml0 hP hK
  obtain ⟨rfl, hZ, hh⟩ := hP
  have hx := Bd.exec
  have hby := Bd.bytes
  have hml : c.maxLocals = 4 := hml0
  have hown : s.vm.findClass "com/example/antigonish/antigonish/Relation" = some m.cls := findClass_of_methodNamed Bd.named
  have hnm := (name_of_methodNamed Bd.named Bd.method).1
  have X0 : Stand p l e ({ frames := 1, cells := 0, slots := 0, locals := 12 } : Room) s m #[(.ref a), (.long d)] below meth c s₁ [] 0 0 := Stand.of_body Bd
  have e0 : s₁.heap = h0 := by rw [← hh, Bd.state]; rfl
  have N0 := Fr.nil n0
  have pre0 : ∀ t, Steps p.tables e below (s₁.setTop (mkF m 0 #[.val (.ref a), .val (.long d), .second, .unset] [])) t → Steps p.tables e below (s₁.setTop (entryFrame m #[(.ref a), (.long d)] 4)) t := fun t k => castTop (own_ef3 m a d) k
  obtain ⟨cq1, kq1, q1a, q1b, q1c⟩ := isOf hZ e0 E
  obtain ⟨_, _, ⟨T1, L1, k1, n1⟩, -, X1, ⟨Lc1, hQ1, l1, y1, z1⟩, st1⟩ := X0.virtualBackUp hx (owner := "java/lang/Enum") (x := (⟨"com/example/antigonish/antigonish/Relation", "ordinal", "()I"⟩ : MethodName)) (y := (⟨"java/lang/Enum", "ordinal", "()I"⟩ : MethodName)) hown (mvT hZ (hw _ (List.mem_of_getElem? (i := 15) rfl))) (mvT hZ (hw _ (List.mem_of_getElem? (i := 16) rfl))) (mvT hZ (hw _ (List.mem_of_getElem? (i := 17) rfl))) (by decide) (mvT hZ (hw _ (List.mem_of_getElem? (i := 19) rfl))) (mvT hZ (hw _ (List.mem_of_getElem? (i := 18) rfl))) (backOf (W := 0) (own_ord l Z a0 hw [] a (5) h0 n0 Z0 F) hZ (hw _ (List.mem_of_getElem? (i := 21) rfl)) (hw _ (List.mem_of_getElem? (i := 20) rfl)) (by decide) (by decide)) q1a q1c (g := (mkF m 1 #[.val (.ref a), .val (.long d), .second, .unset] [(.ref a)])) rfl (by rw [hml]; rfl) (Steps.refl _) (argsL := []) (rest := []) (lenOf own_pd0 rfl) rfl (by show 2 * 0 + _ ≤ _; exact Nat.le_of_eq rfl) (hb hby own_d3_1) (fun _ _ => ⟨rfl, e0, (by decide : 0 + 0 ≤ _), (by decide : 0 + 0 ≤ _)⟩)
  dsimp only [Pt.U, Pt.locs, Pt.cells, Pt.slots] at X1 l1 y1 z1 st1 hQ1
  subst l1 y1 z1
  obtain ⟨rfl, N1q, e1⟩ := hQ1
  have N1 := Fr.app N0 N1q
  have pre3 : ∀ t, Steps p.tables e below (T1.setTop (mkF m 126 #[.val (.ref a), .val (.long d), .second, .unset] [(.int (if ¬ (d = (0 : Int64)) then (1 : Int32) else (0 : Int32)))])) t → Steps p.tables e below (s₁.setTop (entryFrame m #[(.ref a), (.long d)] 4)) t := fun t k => pre0 t (by
    show Steps p.tables e below (s₁.setTop (mkF m 0 #[.val (.ref a), .val (.long d), .second, .unset] [])) _
    refine XS.aloadN X0.here hx rfl (hb hby own_d3_0) rfl rfl ?_
    show Steps p.tables e below (s₁.setTop (mkF m 1 #[.val (.ref a), .val (.long d), .second, .unset] [(.ref a)])) _
    refine st1.trans ?_
    show Steps p.tables e below (T1.setTop (mkF m 4 #[.val (.ref a), .val (.long d), .second, .unset] [(.int (5 : Int32))])) _
    refine XS.tswOut X1.here hx rfl (pc0 := 4) (pc' := 115) rfl (hb hby own_d3_4) rfl (by decide) (by decide) (by decide) ?_
    show Steps p.tables e below (T1.setTop (mkF m 115 #[.val (.ref a), .val (.long d), .second, .unset] [])) _
    refine XS.lloadN X1.here hx rfl (hb hby own_d3_115) rfl ?_
    show Steps p.tables e below (T1.setTop (mkF m 116 #[.val (.ref a), .val (.long d), .second, .unset] [(.long d)])) _
    refine XS.lconst X1.here hx rfl (hb hby own_d3_116) ?_
    show Steps p.tables e below (T1.setTop (mkF m 117 #[.val (.ref a), .val (.long d), .second, .unset] [(.long (0 : Int64)), (.long d)])) _
    refine XS.lcmp X1.here hx rfl (hb hby own_d3_117) rfl ?_
    show Steps p.tables e below (T1.setTop (mkF m 118 #[.val (.ref a), .val (.long d), .second, .unset] [(.int (lcmpW d (0 : Int64)))])) _
    by_cases hc2 : d = (0 : Int64)
    · skip
      refine XS.ifYes X1.here hx rfl (pc0 := 118) (pc' := 125) rfl (hb hby own_d3_118) rfl ((if0 _ _).trans (teq ((lw_eq _ _).mpr hc2)).1) (by decide) (by decide) ?_
      show Steps p.tables e below (T1.setTop (mkF m 125 #[.val (.ref a), .val (.long d), .second, .unset] [])) _
      refine XS.iconst X1.here hx rfl (hb hby own_d3_125) ?_
      exact castTop (congrArg (fun z_ => (mkF m 126 #[.val (.ref a), .val (.long d), .second, .unset] [(.int z_)])) (show (0 : Int32) = (if ¬ (d = (0 : Int64)) then (1 : Int32) else (0 : Int32)) from by rw [if_neg (not_not_intro hc2)])) k
    · skip
      refine XS.ifNo X1.here hx rfl (hb hby own_d3_118) rfl ((if0 _ _).trans (feq (fun q => hc2 ((lw_eq _ _).mp q))).1) ?_
      show Steps p.tables e below (T1.setTop (mkF m 121 #[.val (.ref a), .val (.long d), .second, .unset] [])) _
      refine XS.iconst X1.here hx rfl (hb hby own_d3_121) ?_
      show Steps p.tables e below (T1.setTop (mkF m 122 #[.val (.ref a), .val (.long d), .second, .unset] [(.int (1 : Int32))])) _
      refine XS.goto X1.here hx rfl (pc0 := 122) (pc' := 126) rfl (hb hby own_d3_122) (by decide) (by decide) ?_
      exact castTop (congrArg (fun z_ => (mkF m 126 #[.val (.ref a), .val (.long d), .second, .unset] [(.int z_)])) (show (1 : Int32) = (if ¬ (d = (0 : Int64)) then (1 : Int32) else (0 : Int32)) from by rw [if_pos hc2])) k)
  obtain ⟨fs, hr, hrun, hended, hW, hsame⟩ := X1.leave (v := some (.int (nar .boolean (if ¬ (d = (0 : Int64)) then (1 : Int32) else (0 : Int32))))) (fun h => by rw [Bd.returns] at h; cases h)
  refine ⟨_, _, pre3 _ ?_, hrun, hended, _, _, rfl, ?_, ⟨_, rfl⟩, hW, hsame.mono (by decide) (by decide)⟩
  · show Steps p.tables e below (T1.setTop (mkF m 126 #[.val (.ref a), .val (.long d), .second, .unset] [(.int (if ¬ (d = (0 : Int64)) then (1 : Int32) else (0 : Int32)))])) _
    refine XS.istoreN X1.here hx rfl (hb hby own_d3_126) rfl (l' := #[.val (.ref a), .val (.long d), .second, .val (.int (if ¬ (d = (0 : Int64)) then (1 : Int32) else (0 : Int32)))]) rfl ?_
    show Steps p.tables e below (T1.setTop (mkF m 127 #[.val (.ref a), .val (.long d), .second, .val (.int (if ¬ (d = (0 : Int64)) then (1 : Int32) else (0 : Int32)))] [])) _
    refine XS.iloadN X1.here hx rfl (hb hby own_d3_127) rfl ?_
    show Steps p.tables e below (T1.setTop (mkF m 128 #[.val (.ref a), .val (.long d), .second, .val (.int (if ¬ (d = (0 : Int64)) then (1 : Int32) else (0 : Int32)))] [(.int (if ¬ (d = (0 : Int64)) then (1 : Int32) else (0 : Int32)))])) _
    exact retN X1 hx (t := .boolean) Bd.returns (by simp) (hb hby own_d3_128) hr
  · show own_Q_own_holds5 Z a d h0 n0 _ T1.heap _
    rw [e1]
    exact ⟨own_iv (by rw [own_nb]), N1, rfl⟩
theorem own_pd1 : parseMethodDescriptor "(J)Z" = some ⟨[.long], some .boolean⟩ := by decide +kernel
theorem own_d2_0 : decode method_3_code 0 = .ok (.iload_n 1, 1) := by decide +kernel
theorem own_d2_1 : decode method_3_code 1 = .ok (.iload 4, 2) := by decide +kernel
theorem own_d2_3 : decode method_3_code 3 = .ok (.iconst 1, 1) := by decide +kernel
theorem own_d2_4 : decode method_3_code 4 = .ok (.iadd, 1) := by decide +kernel
theorem own_d2_5 : decode method_3_code 5 = .ok (.ishr, 1) := by decide +kernel
theorem own_d2_6 : decode method_3_code 6 = .ok (.iconst 1, 1) := by decide +kernel
theorem own_d2_7 : decode method_3_code 7 = .ok (.iand, 1) := by decide +kernel
theorem own_d2_8 : decode method_3_code 8 = .ok (.ifCond .eq 7, 3) := by decide +kernel
theorem own_d2_11 : decode method_3_code 11 = .ok (.iconst 1, 1) := by decide +kernel
theorem own_d2_12 : decode method_3_code 12 = .ok (.goto 4, 3) := by decide +kernel
theorem own_d2_15 : decode method_3_code 15 = .ok (.iconst 0, 1) := by decide +kernel
theorem own_d2_16 : decode method_3_code 16 = .ok (.istore 5, 2) := by decide +kernel
theorem own_d2_18 : decode method_3_code 18 = .ok (.aload_n 0, 1) := by decide +kernel
theorem own_d2_19 : decode method_3_code 19 = .ok (.lload_n 2, 1) := by decide +kernel
theorem own_d2_20 : decode method_3_code 20 = .ok (.invokevirtual 7, 3) := by decide +kernel
theorem own_d2_23 : decode method_3_code 23 = .ok (.iload 5, 2) := by decide +kernel
theorem own_d2_25 : decode method_3_code 25 = .ok (.if_icmp .ne 7, 3) := by decide +kernel
theorem own_d2_28 : decode method_3_code 28 = .ok (.iconst 1, 1) := by decide +kernel
theorem own_d2_29 : decode method_3_code 29 = .ok (.goto 4, 3) := by decide +kernel
theorem own_d2_33 : decode method_3_code 33 = .ok (.ireturn, 1) := by decide +kernel
theorem own_ef2 (m : MethodId) (x0 : Addr) (x1 : Int32) (x2 : Int64) (x3 : Int32) : entryFrame m #[(.ref x0), (.int x1), (.long x2), (.int x3)] 6 = mkF m 0 #[.val (.ref x0), .val (.int x1), .val (.long x2), .second, .val (.int x3), .unset] [] := by first | (simp [entryFrame, mkF, argsToLocals, Value.category]; done) | rfl
def own_Q_own_agrees0 (Z : State) (a : Addr) (g : Int32) (d : Int64) (z : Int32) (h0 : Heap) (n0 : Nat) (v : Option Value) (h : Heap) (L : List Loc) : Prop := v = some (.int 1) ∧ Fr n0 L ∧ h = h0
set_option maxRecDepth 65536 in
set_option maxHeartbeats 40000000 in
theorem own_agrees0 (l : Launch) (Z : State) (a0 : Array Value) (hw : ∀ d ∈ tables_1, d.before a0 Z = true) (ws : List Jvm.Cond) (a : Addr) (g : Int32) (d : Int64) (z : Int32) (h0 : Heap) (n0 : Nat) (Z0 : n0 ≤ h0.size) (F : Fld Z h0 a "java/lang/Enum" "ordinal" "I" (.int (0))) (E : Exa Z h0 a "com/example/antigonish/antigonish/Relation") (hq : (((g >>> ((z + (1 : Int32)) &&& 31)) &&& (1 : Int32)) = (0 : Int32)) ↔ ¬ (d < (0 : Int64))) :
    MetFree l (⟨"com/example/antigonish/antigonish/RelationHoldsPinLaw", "agrees", "(Lcom/example/antigonish/antigonish/Relation;IJI)Z"⟩ : MethodName) (head1 (Jvm.Cond.code (⟨"com/example/antigonish/antigonish/RelationHoldsPinLaw", "agrees", "(Lcom/example/antigonish/antigonish/Relation;IJI)Z"⟩ : MethodName) method_3_code 6 (some .boolean) :: ws) ({ frames := 2, cells := 0, slots := 0, locals := 27 } : Room)) (fun as_ U => as_ = #[(.ref a), (.int g), (.long d), (.int z)] ∧ Z.Warmed39 U.vm ∧ U.heap = h0) (fun _ _ _ _ _ => True) (fun _ U o U' => ∃ v L, o = .returned v ∧ own_Q_own_agrees0 Z a g d z h0 n0 v U'.heap L ∧ FrameEnd U o U' L ({ frames := 2, cells := 0, slots := 0, locals := 27 } : Room).cells ({ frames := 2, cells := 0, slots := 0, locals := 27 } : Room).slots) := by
  refine MetFree.of_bodySF (plainFor_of_name own_pn0) hisR ?_
  intro p e s m args below meth c s₁ Bd hml0 hP hK
  obtain ⟨rfl, hZ, hh⟩ := hP
  have hx := Bd.exec
  have hby := Bd.bytes
  have hml : c.maxLocals = 6 := hml0
  have hown : s.vm.findClass "com/example/antigonish/antigonish/RelationHoldsPinLaw" = some m.cls := findClass_of_methodNamed Bd.named
  have hnm := (name_of_methodNamed Bd.named Bd.method).1
  have X0 : Stand p l e ({ frames := 2, cells := 0, slots := 0, locals := 27 } : Room) s m #[(.ref a), (.int g), (.long d), (.int z)] below meth c s₁ [] 0 0 := Stand.of_body Bd
  have e0 : s₁.heap = h0 := by rw [← hh, Bd.state]; rfl
  have N0 := Fr.nil n0
  have pre0 : ∀ t, Steps p.tables e below (s₁.setTop (mkF m 0 #[.val (.ref a), .val (.int g), .val (.long d), .second, .val (.int z), .unset] [])) t → Steps p.tables e below (s₁.setTop (entryFrame m #[(.ref a), (.int g), (.long d), (.int z)] 6)) t := fun t k => castTop (own_ef2 m a g d z) k
  have pre2 : ∀ t, Steps p.tables e below (s₁.setTop (mkF m 16 #[.val (.ref a), .val (.int g), .val (.long d), .second, .val (.int z), .unset] [(.int (if ¬ (((g >>> ((z + (1 : Int32)) &&& 31)) &&& (1 : Int32)) = (0 : Int32)) then (1 : Int32) else (0 : Int32)))])) t → Steps p.tables e below (s₁.setTop (entryFrame m #[(.ref a), (.int g), (.long d), (.int z)] 6)) t := fun t k => pre0 t (by
    show Steps p.tables e below (s₁.setTop (mkF m 0 #[.val (.ref a), .val (.int g), .val (.long d), .second, .val (.int z), .unset] [])) _
    refine XS.iloadN X0.here hx rfl (hb hby own_d2_0) rfl ?_
    show Steps p.tables e below (s₁.setTop (mkF m 1 #[.val (.ref a), .val (.int g), .val (.long d), .second, .val (.int z), .unset] [(.int g)])) _
    refine XS.iload X0.here hx rfl (hb hby own_d2_1) rfl ?_
    show Steps p.tables e below (s₁.setTop (mkF m 3 #[.val (.ref a), .val (.int g), .val (.long d), .second, .val (.int z), .unset] [(.int z), (.int g)])) _
    refine XS.iconst X0.here hx rfl (hb hby own_d2_3) ?_
    show Steps p.tables e below (s₁.setTop (mkF m 4 #[.val (.ref a), .val (.int g), .val (.long d), .second, .val (.int z), .unset] [(.int (1 : Int32)), (.int z), (.int g)])) _
    refine XS.iadd X0.here hx rfl (hb hby own_d2_4) rfl ?_
    show Steps p.tables e below (s₁.setTop (mkF m 5 #[.val (.ref a), .val (.int g), .val (.long d), .second, .val (.int z), .unset] [(.int (z + (1 : Int32))), (.int g)])) _
    refine XS.ishr X0.here hx rfl (hb hby own_d2_5) rfl ?_
    show Steps p.tables e below (s₁.setTop (mkF m 6 #[.val (.ref a), .val (.int g), .val (.long d), .second, .val (.int z), .unset] [(.int (g >>> ((z + (1 : Int32)) &&& 31)))])) _
    refine XS.iconst X0.here hx rfl (hb hby own_d2_6) ?_
    show Steps p.tables e below (s₁.setTop (mkF m 7 #[.val (.ref a), .val (.int g), .val (.long d), .second, .val (.int z), .unset] [(.int (1 : Int32)), (.int (g >>> ((z + (1 : Int32)) &&& 31)))])) _
    refine XS.iand X0.here hx rfl (hb hby own_d2_7) rfl ?_
    show Steps p.tables e below (s₁.setTop (mkF m 8 #[.val (.ref a), .val (.int g), .val (.long d), .second, .val (.int z), .unset] [(.int ((g >>> ((z + (1 : Int32)) &&& 31)) &&& (1 : Int32)))])) _
    by_cases hc1 : ((g >>> ((z + (1 : Int32)) &&& 31)) &&& (1 : Int32)) = (0 : Int32)
    · skip
      refine XS.ifYes X0.here hx rfl (pc0 := 8) (pc' := 15) rfl (hb hby own_d2_8) rfl ((if0 _ _).trans (teq hc1).1) (by decide) (by decide) ?_
      show Steps p.tables e below (s₁.setTop (mkF m 15 #[.val (.ref a), .val (.int g), .val (.long d), .second, .val (.int z), .unset] [])) _
      refine XS.iconst X0.here hx rfl (hb hby own_d2_15) ?_
      exact castTop (congrArg (fun z_ => (mkF m 16 #[.val (.ref a), .val (.int g), .val (.long d), .second, .val (.int z), .unset] [(.int z_)])) (show (0 : Int32) = (if ¬ (((g >>> ((z + (1 : Int32)) &&& 31)) &&& (1 : Int32)) = (0 : Int32)) then (1 : Int32) else (0 : Int32)) from by rw [if_neg (not_not_intro hc1)])) k
    · skip
      refine XS.ifNo X0.here hx rfl (hb hby own_d2_8) rfl ((if0 _ _).trans (feq hc1).1) ?_
      show Steps p.tables e below (s₁.setTop (mkF m 11 #[.val (.ref a), .val (.int g), .val (.long d), .second, .val (.int z), .unset] [])) _
      refine XS.iconst X0.here hx rfl (hb hby own_d2_11) ?_
      show Steps p.tables e below (s₁.setTop (mkF m 12 #[.val (.ref a), .val (.int g), .val (.long d), .second, .val (.int z), .unset] [(.int (1 : Int32))])) _
      refine XS.goto X0.here hx rfl (pc0 := 12) (pc' := 16) rfl (hb hby own_d2_12) (by decide) (by decide) ?_
      exact castTop (congrArg (fun z_ => (mkF m 16 #[.val (.ref a), .val (.int g), .val (.long d), .second, .val (.int z), .unset] [(.int z_)])) (show (1 : Int32) = (if ¬ (((g >>> ((z + (1 : Int32)) &&& 31)) &&& (1 : Int32)) = (0 : Int32)) then (1 : Int32) else (0 : Int32)) from by rw [if_pos hc1])) k)
  obtain ⟨cq3, kq3, q3a, q3b, q3c⟩ := isOf hZ e0 E
  obtain ⟨_, _, ⟨T3, L3, k3, n3⟩, -, X3, ⟨Lc3, hQ3, l3, y3, z3⟩, st3⟩ := X0.virtualBack hx (y := (⟨"com/example/antigonish/antigonish/Relation", "holds", "(J)Z"⟩ : MethodName)) (z := (⟨"com/example/antigonish/antigonish/Relation", "holds", "(J)Z"⟩ : MethodName)) hown (mvT hZ (hw _ (List.mem_of_getElem? (i := 10) rfl))) (mvT hZ (hw _ (List.mem_of_getElem? (i := 11) rfl))) (notFace_of_selects (args := #[]) (mvT hZ (hw _ (List.mem_of_getElem? (i := 13) rfl)))) (mvT hZ (hw _ (List.mem_of_getElem? (i := 13) rfl))) (mvT hZ (hw _ (List.mem_of_getElem? (i := 12) rfl))) (by decide) (backOf (W := 0) (own_holds0 l Z a0 hw [] a d  h0 n0 Z0 F E) hZ (hw _ (List.mem_of_getElem? (i := 14) rfl)) (hw _ (List.mem_of_getElem? (i := 5) rfl)) (by decide) (by decide)) q3a q3c (g := (mkF m 20 #[.val (.ref a), .val (.int g), .val (.long d), .second, .val (.int z), .val (.int (if ¬ (((g >>> ((z + (1 : Int32)) &&& 31)) &&& (1 : Int32)) = (0 : Int32)) then (1 : Int32) else (0 : Int32)))] [(.long d), (.ref a)])) rfl (by rw [hml]; rfl) (Steps.refl _) (argsL := [(.long d)]) (rest := []) (lenOf own_pd1 rfl) rfl (by show 2 * 0 + _ ≤ _; exact Nat.le_of_eq rfl) (hb hby own_d2_20) (fun _ _ => ⟨rfl, e0, (by decide : 0 + 0 ≤ _), (by decide : 0 + 0 ≤ _)⟩)
  dsimp only [Pt.U, Pt.locs, Pt.cells, Pt.slots] at X3 l3 y3 z3 st3 hQ3
  subst l3 y3 z3
  obtain ⟨rfl, N3q, e3⟩ := hQ3
  have N3 := Fr.app N0 N3q
  obtain ⟨fs, hr, hrun, hended, hW, hsame⟩ := X3.leave (v := some (.int (1 : Int32))) (fun h => by rw [Bd.returns] at h; cases h)
  refine ⟨_, _, pre2 _ ?_, hrun, hended, _, _, rfl, ?_, ⟨_, rfl⟩, hW, hsame.mono (by decide) (by decide)⟩
  · show Steps p.tables e below (s₁.setTop (mkF m 16 #[.val (.ref a), .val (.int g), .val (.long d), .second, .val (.int z), .unset] [(.int (if ¬ (((g >>> ((z + (1 : Int32)) &&& 31)) &&& (1 : Int32)) = (0 : Int32)) then (1 : Int32) else (0 : Int32)))])) _
    refine XS.istore X0.here hx rfl (hb hby own_d2_16) rfl (l' := #[.val (.ref a), .val (.int g), .val (.long d), .second, .val (.int z), .val (.int (if ¬ (((g >>> ((z + (1 : Int32)) &&& 31)) &&& (1 : Int32)) = (0 : Int32)) then (1 : Int32) else (0 : Int32)))]) rfl ?_
    show Steps p.tables e below (s₁.setTop (mkF m 18 #[.val (.ref a), .val (.int g), .val (.long d), .second, .val (.int z), .val (.int (if ¬ (((g >>> ((z + (1 : Int32)) &&& 31)) &&& (1 : Int32)) = (0 : Int32)) then (1 : Int32) else (0 : Int32)))] [])) _
    refine XS.aloadN X0.here hx rfl (hb hby own_d2_18) rfl rfl ?_
    show Steps p.tables e below (s₁.setTop (mkF m 19 #[.val (.ref a), .val (.int g), .val (.long d), .second, .val (.int z), .val (.int (if ¬ (((g >>> ((z + (1 : Int32)) &&& 31)) &&& (1 : Int32)) = (0 : Int32)) then (1 : Int32) else (0 : Int32)))] [(.ref a)])) _
    refine XS.lloadN X0.here hx rfl (hb hby own_d2_19) rfl ?_
    show Steps p.tables e below (s₁.setTop (mkF m 20 #[.val (.ref a), .val (.int g), .val (.long d), .second, .val (.int z), .val (.int (if ¬ (((g >>> ((z + (1 : Int32)) &&& 31)) &&& (1 : Int32)) = (0 : Int32)) then (1 : Int32) else (0 : Int32)))] [(.long d), (.ref a)])) _
    refine st3.trans ?_
    show Steps p.tables e below (T3.setTop (mkF m 23 #[.val (.ref a), .val (.int g), .val (.long d), .second, .val (.int z), .val (.int (if ¬ (((g >>> ((z + (1 : Int32)) &&& 31)) &&& (1 : Int32)) = (0 : Int32)) then (1 : Int32) else (0 : Int32)))] [(.int (if d < (0 : Int64) then (1 : Int32) else (0 : Int32)))])) _
    refine XS.iload X3.here hx rfl (hb hby own_d2_23) rfl ?_
    show Steps p.tables e below (T3.setTop (mkF m 25 #[.val (.ref a), .val (.int g), .val (.long d), .second, .val (.int z), .val (.int (if ¬ (((g >>> ((z + (1 : Int32)) &&& 31)) &&& (1 : Int32)) = (0 : Int32)) then (1 : Int32) else (0 : Int32)))] [(.int (if ¬ (((g >>> ((z + (1 : Int32)) &&& 31)) &&& (1 : Int32)) = (0 : Int32)) then (1 : Int32) else (0 : Int32))), (.int (if d < (0 : Int64) then (1 : Int32) else (0 : Int32)))])) _
    refine XS.icmpNo X3.here hx rfl (hb hby own_d2_25) rfl (teq (by by_cases hp : d < (0 : Int64) <;> simp [hp, hq] : (if d < (0 : Int64) then (1 : Int32) else (0 : Int32)) = (if ¬ (((g >>> ((z + (1 : Int32)) &&& 31)) &&& (1 : Int32)) = (0 : Int32)) then (1 : Int32) else (0 : Int32)))).2 ?_
    show Steps p.tables e below (T3.setTop (mkF m 28 #[.val (.ref a), .val (.int g), .val (.long d), .second, .val (.int z), .val (.int (if ¬ (((g >>> ((z + (1 : Int32)) &&& 31)) &&& (1 : Int32)) = (0 : Int32)) then (1 : Int32) else (0 : Int32)))] [])) _
    refine XS.iconst X3.here hx rfl (hb hby own_d2_28) ?_
    show Steps p.tables e below (T3.setTop (mkF m 29 #[.val (.ref a), .val (.int g), .val (.long d), .second, .val (.int z), .val (.int (if ¬ (((g >>> ((z + (1 : Int32)) &&& 31)) &&& (1 : Int32)) = (0 : Int32)) then (1 : Int32) else (0 : Int32)))] [(.int (1 : Int32))])) _
    refine XS.goto X3.here hx rfl (pc0 := 29) (pc' := 33) rfl (hb hby own_d2_29) (by decide) (by decide) ?_
    show Steps p.tables e below (T3.setTop (mkF m 33 #[.val (.ref a), .val (.int g), .val (.long d), .second, .val (.int z), .val (.int (if ¬ (((g >>> ((z + (1 : Int32)) &&& 31)) &&& (1 : Int32)) = (0 : Int32)) then (1 : Int32) else (0 : Int32)))] [(.int (1 : Int32))])) _
    exact retN X3 hx (t := .boolean) Bd.returns (by simp) (hb hby own_d2_33) hr
  · show own_Q_own_agrees0 Z a g d z h0 n0 _ T3.heap _
    rw [e3]
    exact ⟨rfl, N3, rfl⟩
def own_Q_own_agrees1 (Z : State) (a : Addr) (g : Int32) (d : Int64) (z : Int32) (h0 : Heap) (n0 : Nat) (v : Option Value) (h : Heap) (L : List Loc) : Prop := v = some (.int 1) ∧ Fr n0 L ∧ h = h0
set_option maxRecDepth 65536 in
set_option maxHeartbeats 40000000 in
theorem own_agrees1 (l : Launch) (Z : State) (a0 : Array Value) (hw : ∀ d ∈ tables_1, d.before a0 Z = true) (ws : List Jvm.Cond) (a : Addr) (g : Int32) (d : Int64) (z : Int32) (h0 : Heap) (n0 : Nat) (Z0 : n0 ≤ h0.size) (F : Fld Z h0 a "java/lang/Enum" "ordinal" "I" (.int (1))) (E : Exa Z h0 a "com/example/antigonish/antigonish/Relation") (hq : (((g >>> ((z + (1 : Int32)) &&& 31)) &&& (1 : Int32)) = (0 : Int32)) ↔ ¬ (¬ ((0 : Int64) < d))) :
    MetFree l (⟨"com/example/antigonish/antigonish/RelationHoldsPinLaw", "agrees", "(Lcom/example/antigonish/antigonish/Relation;IJI)Z"⟩ : MethodName) (head1 (Jvm.Cond.code (⟨"com/example/antigonish/antigonish/RelationHoldsPinLaw", "agrees", "(Lcom/example/antigonish/antigonish/Relation;IJI)Z"⟩ : MethodName) method_3_code 6 (some .boolean) :: ws) ({ frames := 2, cells := 0, slots := 0, locals := 27 } : Room)) (fun as_ U => as_ = #[(.ref a), (.int g), (.long d), (.int z)] ∧ Z.Warmed39 U.vm ∧ U.heap = h0) (fun _ _ _ _ _ => True) (fun _ U o U' => ∃ v L, o = .returned v ∧ own_Q_own_agrees1 Z a g d z h0 n0 v U'.heap L ∧ FrameEnd U o U' L ({ frames := 2, cells := 0, slots := 0, locals := 27 } : Room).cells ({ frames := 2, cells := 0, slots := 0, locals := 27 } : Room).slots) := by
  refine MetFree.of_bodySF (plainFor_of_name own_pn0) hisR ?_
  intro p e s m args below meth c s₁ Bd hml0 hP hK
  obtain ⟨rfl, hZ, hh⟩ := hP
  have hx := Bd.exec
  have hby := Bd.bytes
  have hml : c.maxLocals = 6 := hml0
  have hown : s.vm.findClass "com/example/antigonish/antigonish/RelationHoldsPinLaw" = some m.cls := findClass_of_methodNamed Bd.named
  have hnm := (name_of_methodNamed Bd.named Bd.method).1
  have X0 : Stand p l e ({ frames := 2, cells := 0, slots := 0, locals := 27 } : Room) s m #[(.ref a), (.int g), (.long d), (.int z)] below meth c s₁ [] 0 0 := Stand.of_body Bd
  have e0 : s₁.heap = h0 := by rw [← hh, Bd.state]; rfl
  have N0 := Fr.nil n0
  have pre0 : ∀ t, Steps p.tables e below (s₁.setTop (mkF m 0 #[.val (.ref a), .val (.int g), .val (.long d), .second, .val (.int z), .unset] [])) t → Steps p.tables e below (s₁.setTop (entryFrame m #[(.ref a), (.int g), (.long d), (.int z)] 6)) t := fun t k => castTop (own_ef2 m a g d z) k
  have pre2 : ∀ t, Steps p.tables e below (s₁.setTop (mkF m 16 #[.val (.ref a), .val (.int g), .val (.long d), .second, .val (.int z), .unset] [(.int (if ¬ (((g >>> ((z + (1 : Int32)) &&& 31)) &&& (1 : Int32)) = (0 : Int32)) then (1 : Int32) else (0 : Int32)))])) t → Steps p.tables e below (s₁.setTop (entryFrame m #[(.ref a), (.int g), (.long d), (.int z)] 6)) t := fun t k => pre0 t (by
    show Steps p.tables e below (s₁.setTop (mkF m 0 #[.val (.ref a), .val (.int g), .val (.long d), .second, .val (.int z), .unset] [])) _
    refine XS.iloadN X0.here hx rfl (hb hby own_d2_0) rfl ?_
    show Steps p.tables e below (s₁.setTop (mkF m 1 #[.val (.ref a), .val (.int g), .val (.long d), .second, .val (.int z), .unset] [(.int g)])) _
    refine XS.iload X0.here hx rfl (hb hby own_d2_1) rfl ?_
    show Steps p.tables e below (s₁.setTop (mkF m 3 #[.val (.ref a), .val (.int g), .val (.long d), .second, .val (.int z), .unset] [(.int z), (.int g)])) _
    refine XS.iconst X0.here hx rfl (hb hby own_d2_3) ?_
    show Steps p.tables e below (s₁.setTop (mkF m 4 #[.val (.ref a), .val (.int g), .val (.long d), .second, .val (.int z), .unset] [(.int (1 : Int32)), (.int z), (.int g)])) _
    refine XS.iadd X0.here hx rfl (hb hby own_d2_4) rfl ?_
    show Steps p.tables e below (s₁.setTop (mkF m 5 #[.val (.ref a), .val (.int g), .val (.long d), .second, .val (.int z), .unset] [(.int (z + (1 : Int32))), (.int g)])) _
    refine XS.ishr X0.here hx rfl (hb hby own_d2_5) rfl ?_
    show Steps p.tables e below (s₁.setTop (mkF m 6 #[.val (.ref a), .val (.int g), .val (.long d), .second, .val (.int z), .unset] [(.int (g >>> ((z + (1 : Int32)) &&& 31)))])) _
    refine XS.iconst X0.here hx rfl (hb hby own_d2_6) ?_
    show Steps p.tables e below (s₁.setTop (mkF m 7 #[.val (.ref a), .val (.int g), .val (.long d), .second, .val (.int z), .unset] [(.int (1 : Int32)), (.int (g >>> ((z + (1 : Int32)) &&& 31)))])) _
    refine XS.iand X0.here hx rfl (hb hby own_d2_7) rfl ?_
    show Steps p.tables e below (s₁.setTop (mkF m 8 #[.val (.ref a), .val (.int g), .val (.long d), .second, .val (.int z), .unset] [(.int ((g >>> ((z + (1 : Int32)) &&& 31)) &&& (1 : Int32)))])) _
    by_cases hc1 : ((g >>> ((z + (1 : Int32)) &&& 31)) &&& (1 : Int32)) = (0 : Int32)
    · skip
      refine XS.ifYes X0.here hx rfl (pc0 := 8) (pc' := 15) rfl (hb hby own_d2_8) rfl ((if0 _ _).trans (teq hc1).1) (by decide) (by decide) ?_
      show Steps p.tables e below (s₁.setTop (mkF m 15 #[.val (.ref a), .val (.int g), .val (.long d), .second, .val (.int z), .unset] [])) _
      refine XS.iconst X0.here hx rfl (hb hby own_d2_15) ?_
      exact castTop (congrArg (fun z_ => (mkF m 16 #[.val (.ref a), .val (.int g), .val (.long d), .second, .val (.int z), .unset] [(.int z_)])) (show (0 : Int32) = (if ¬ (((g >>> ((z + (1 : Int32)) &&& 31)) &&& (1 : Int32)) = (0 : Int32)) then (1 : Int32) else (0 : Int32)) from by rw [if_neg (not_not_intro hc1)])) k
    · skip
      refine XS.ifNo X0.here hx rfl (hb hby own_d2_8) rfl ((if0 _ _).trans (feq hc1).1) ?_
      show Steps p.tables e below (s₁.setTop (mkF m 11 #[.val (.ref a), .val (.int g), .val (.long d), .second, .val (.int z), .unset] [])) _
      refine XS.iconst X0.here hx rfl (hb hby own_d2_11) ?_
      show Steps p.tables e below (s₁.setTop (mkF m 12 #[.val (.ref a), .val (.int g), .val (.long d), .second, .val (.int z), .unset] [(.int (1 : Int32))])) _
      refine XS.goto X0.here hx rfl (pc0 := 12) (pc' := 16) rfl (hb hby own_d2_12) (by decide) (by decide) ?_
      exact castTop (congrArg (fun z_ => (mkF m 16 #[.val (.ref a), .val (.int g), .val (.long d), .second, .val (.int z), .unset] [(.int z_)])) (show (1 : Int32) = (if ¬ (((g >>> ((z + (1 : Int32)) &&& 31)) &&& (1 : Int32)) = (0 : Int32)) then (1 : Int32) else (0 : Int32)) from by rw [if_pos hc1])) k)
  obtain ⟨cq3, kq3, q3a, q3b, q3c⟩ := isOf hZ e0 E
  obtain ⟨_, _, ⟨T3, L3, k3, n3⟩, -, X3, ⟨Lc3, hQ3, l3, y3, z3⟩, st3⟩ := X0.virtualBack hx (y := (⟨"com/example/antigonish/antigonish/Relation", "holds", "(J)Z"⟩ : MethodName)) (z := (⟨"com/example/antigonish/antigonish/Relation", "holds", "(J)Z"⟩ : MethodName)) hown (mvT hZ (hw _ (List.mem_of_getElem? (i := 10) rfl))) (mvT hZ (hw _ (List.mem_of_getElem? (i := 11) rfl))) (notFace_of_selects (args := #[]) (mvT hZ (hw _ (List.mem_of_getElem? (i := 13) rfl)))) (mvT hZ (hw _ (List.mem_of_getElem? (i := 13) rfl))) (mvT hZ (hw _ (List.mem_of_getElem? (i := 12) rfl))) (by decide) (backOf (W := 0) (own_holds1 l Z a0 hw [] a d  h0 n0 Z0 F E) hZ (hw _ (List.mem_of_getElem? (i := 14) rfl)) (hw _ (List.mem_of_getElem? (i := 5) rfl)) (by decide) (by decide)) q3a q3c (g := (mkF m 20 #[.val (.ref a), .val (.int g), .val (.long d), .second, .val (.int z), .val (.int (if ¬ (((g >>> ((z + (1 : Int32)) &&& 31)) &&& (1 : Int32)) = (0 : Int32)) then (1 : Int32) else (0 : Int32)))] [(.long d), (.ref a)])) rfl (by rw [hml]; rfl) (Steps.refl _) (argsL := [(.long d)]) (rest := []) (lenOf own_pd1 rfl) rfl (by show 2 * 0 + _ ≤ _; exact Nat.le_of_eq rfl) (hb hby own_d2_20) (fun _ _ => ⟨rfl, e0, (by decide : 0 + 0 ≤ _), (by decide : 0 + 0 ≤ _)⟩)
  dsimp only [Pt.U, Pt.locs, Pt.cells, Pt.slots] at X3 l3 y3 z3 st3 hQ3
  subst l3 y3 z3
  obtain ⟨rfl, N3q, e3⟩ := hQ3
  have N3 := Fr.app N0 N3q
  obtain ⟨fs, hr, hrun, hended, hW, hsame⟩ := X3.leave (v := some (.int (1 : Int32))) (fun h => by rw [Bd.returns] at h; cases h)
  refine ⟨_, _, pre2 _ ?_, hrun, hended, _, _, rfl, ?_, ⟨_, rfl⟩, hW, hsame.mono (by decide) (by decide)⟩
  · show Steps p.tables e below (s₁.setTop (mkF m 16 #[.val (.ref a), .val (.int g), .val (.long d), .second, .val (.int z), .unset] [(.int (if ¬ (((g >>> ((z + (1 : Int32)) &&& 31)) &&& (1 : Int32)) = (0 : Int32)) then (1 : Int32) else (0 : Int32)))])) _
    refine XS.istore X0.here hx rfl (hb hby own_d2_16) rfl (l' := #[.val (.ref a), .val (.int g), .val (.long d), .second, .val (.int z), .val (.int (if ¬ (((g >>> ((z + (1 : Int32)) &&& 31)) &&& (1 : Int32)) = (0 : Int32)) then (1 : Int32) else (0 : Int32)))]) rfl ?_
    show Steps p.tables e below (s₁.setTop (mkF m 18 #[.val (.ref a), .val (.int g), .val (.long d), .second, .val (.int z), .val (.int (if ¬ (((g >>> ((z + (1 : Int32)) &&& 31)) &&& (1 : Int32)) = (0 : Int32)) then (1 : Int32) else (0 : Int32)))] [])) _
    refine XS.aloadN X0.here hx rfl (hb hby own_d2_18) rfl rfl ?_
    show Steps p.tables e below (s₁.setTop (mkF m 19 #[.val (.ref a), .val (.int g), .val (.long d), .second, .val (.int z), .val (.int (if ¬ (((g >>> ((z + (1 : Int32)) &&& 31)) &&& (1 : Int32)) = (0 : Int32)) then (1 : Int32) else (0 : Int32)))] [(.ref a)])) _
    refine XS.lloadN X0.here hx rfl (hb hby own_d2_19) rfl ?_
    show Steps p.tables e below (s₁.setTop (mkF m 20 #[.val (.ref a), .val (.int g), .val (.long d), .second, .val (.int z), .val (.int (if ¬ (((g >>> ((z + (1 : Int32)) &&& 31)) &&& (1 : Int32)) = (0 : Int32)) then (1 : Int32) else (0 : Int32)))] [(.long d), (.ref a)])) _
    refine st3.trans ?_
    show Steps p.tables e below (T3.setTop (mkF m 23 #[.val (.ref a), .val (.int g), .val (.long d), .second, .val (.int z), .val (.int (if ¬ (((g >>> ((z + (1 : Int32)) &&& 31)) &&& (1 : Int32)) = (0 : Int32)) then (1 : Int32) else (0 : Int32)))] [(.int (if ¬ ((0 : Int64) < d) then (1 : Int32) else (0 : Int32)))])) _
    refine XS.iload X3.here hx rfl (hb hby own_d2_23) rfl ?_
    show Steps p.tables e below (T3.setTop (mkF m 25 #[.val (.ref a), .val (.int g), .val (.long d), .second, .val (.int z), .val (.int (if ¬ (((g >>> ((z + (1 : Int32)) &&& 31)) &&& (1 : Int32)) = (0 : Int32)) then (1 : Int32) else (0 : Int32)))] [(.int (if ¬ (((g >>> ((z + (1 : Int32)) &&& 31)) &&& (1 : Int32)) = (0 : Int32)) then (1 : Int32) else (0 : Int32))), (.int (if ¬ ((0 : Int64) < d) then (1 : Int32) else (0 : Int32)))])) _
    refine XS.icmpNo X3.here hx rfl (hb hby own_d2_25) rfl (teq (by by_cases hp : ¬ ((0 : Int64) < d) <;> simp [hp, hq] : (if ¬ ((0 : Int64) < d) then (1 : Int32) else (0 : Int32)) = (if ¬ (((g >>> ((z + (1 : Int32)) &&& 31)) &&& (1 : Int32)) = (0 : Int32)) then (1 : Int32) else (0 : Int32)))).2 ?_
    show Steps p.tables e below (T3.setTop (mkF m 28 #[.val (.ref a), .val (.int g), .val (.long d), .second, .val (.int z), .val (.int (if ¬ (((g >>> ((z + (1 : Int32)) &&& 31)) &&& (1 : Int32)) = (0 : Int32)) then (1 : Int32) else (0 : Int32)))] [])) _
    refine XS.iconst X3.here hx rfl (hb hby own_d2_28) ?_
    show Steps p.tables e below (T3.setTop (mkF m 29 #[.val (.ref a), .val (.int g), .val (.long d), .second, .val (.int z), .val (.int (if ¬ (((g >>> ((z + (1 : Int32)) &&& 31)) &&& (1 : Int32)) = (0 : Int32)) then (1 : Int32) else (0 : Int32)))] [(.int (1 : Int32))])) _
    refine XS.goto X3.here hx rfl (pc0 := 29) (pc' := 33) rfl (hb hby own_d2_29) (by decide) (by decide) ?_
    show Steps p.tables e below (T3.setTop (mkF m 33 #[.val (.ref a), .val (.int g), .val (.long d), .second, .val (.int z), .val (.int (if ¬ (((g >>> ((z + (1 : Int32)) &&& 31)) &&& (1 : Int32)) = (0 : Int32)) then (1 : Int32) else (0 : Int32)))] [(.int (1 : Int32))])) _
    exact retN X3 hx (t := .boolean) Bd.returns (by simp) (hb hby own_d2_33) hr
  · show own_Q_own_agrees1 Z a g d z h0 n0 _ T3.heap _
    rw [e3]
    exact ⟨rfl, N3, rfl⟩
def own_Q_own_agrees2 (Z : State) (a : Addr) (g : Int32) (d : Int64) (z : Int32) (h0 : Heap) (n0 : Nat) (v : Option Value) (h : Heap) (L : List Loc) : Prop := v = some (.int 1) ∧ Fr n0 L ∧ h = h0
set_option maxRecDepth 65536 in
set_option maxHeartbeats 40000000 in
theorem own_agrees2 (l : Launch) (Z : State) (a0 : Array Value) (hw : ∀ d ∈ tables_1, d.before a0 Z = true) (ws : List Jvm.Cond) (a : Addr) (g : Int32) (d : Int64) (z : Int32) (h0 : Heap) (n0 : Nat) (Z0 : n0 ≤ h0.size) (F : Fld Z h0 a "java/lang/Enum" "ordinal" "I" (.int (2))) (E : Exa Z h0 a "com/example/antigonish/antigonish/Relation") (hq : (((g >>> ((z + (1 : Int32)) &&& 31)) &&& (1 : Int32)) = (0 : Int32)) ↔ ¬ (¬ (d < (0 : Int64)))) :
    MetFree l (⟨"com/example/antigonish/antigonish/RelationHoldsPinLaw", "agrees", "(Lcom/example/antigonish/antigonish/Relation;IJI)Z"⟩ : MethodName) (head1 (Jvm.Cond.code (⟨"com/example/antigonish/antigonish/RelationHoldsPinLaw", "agrees", "(Lcom/example/antigonish/antigonish/Relation;IJI)Z"⟩ : MethodName) method_3_code 6 (some .boolean) :: ws) ({ frames := 2, cells := 0, slots := 0, locals := 27 } : Room)) (fun as_ U => as_ = #[(.ref a), (.int g), (.long d), (.int z)] ∧ Z.Warmed39 U.vm ∧ U.heap = h0) (fun _ _ _ _ _ => True) (fun _ U o U' => ∃ v L, o = .returned v ∧ own_Q_own_agrees2 Z a g d z h0 n0 v U'.heap L ∧ FrameEnd U o U' L ({ frames := 2, cells := 0, slots := 0, locals := 27 } : Room).cells ({ frames := 2, cells := 0, slots := 0, locals := 27 } : Room).slots) := by
  refine MetFree.of_bodySF (plainFor_of_name own_pn0) hisR ?_
  intro p e s m args below meth c s₁ Bd hml0 hP hK
  obtain ⟨rfl, hZ, hh⟩ := hP
  have hx := Bd.exec
  have hby := Bd.bytes
  have hml : c.maxLocals = 6 := hml0
  have hown : s.vm.findClass "com/example/antigonish/antigonish/RelationHoldsPinLaw" = some m.cls := findClass_of_methodNamed Bd.named
  have hnm := (name_of_methodNamed Bd.named Bd.method).1
  have X0 : Stand p l e ({ frames := 2, cells := 0, slots := 0, locals := 27 } : Room) s m #[(.ref a), (.int g), (.long d), (.int z)] below meth c s₁ [] 0 0 := Stand.of_body Bd
  have e0 : s₁.heap = h0 := by rw [← hh, Bd.state]; rfl
  have N0 := Fr.nil n0
  have pre0 : ∀ t, Steps p.tables e below (s₁.setTop (mkF m 0 #[.val (.ref a), .val (.int g), .val (.long d), .second, .val (.int z), .unset] [])) t → Steps p.tables e below (s₁.setTop (entryFrame m #[(.ref a), (.int g), (.long d), (.int z)] 6)) t := fun t k => castTop (own_ef2 m a g d z) k
  have pre2 : ∀ t, Steps p.tables e below (s₁.setTop (mkF m 16 #[.val (.ref a), .val (.int g), .val (.long d), .second, .val (.int z), .unset] [(.int (if ¬ (((g >>> ((z + (1 : Int32)) &&& 31)) &&& (1 : Int32)) = (0 : Int32)) then (1 : Int32) else (0 : Int32)))])) t → Steps p.tables e below (s₁.setTop (entryFrame m #[(.ref a), (.int g), (.long d), (.int z)] 6)) t := fun t k => pre0 t (by
    show Steps p.tables e below (s₁.setTop (mkF m 0 #[.val (.ref a), .val (.int g), .val (.long d), .second, .val (.int z), .unset] [])) _
    refine XS.iloadN X0.here hx rfl (hb hby own_d2_0) rfl ?_
    show Steps p.tables e below (s₁.setTop (mkF m 1 #[.val (.ref a), .val (.int g), .val (.long d), .second, .val (.int z), .unset] [(.int g)])) _
    refine XS.iload X0.here hx rfl (hb hby own_d2_1) rfl ?_
    show Steps p.tables e below (s₁.setTop (mkF m 3 #[.val (.ref a), .val (.int g), .val (.long d), .second, .val (.int z), .unset] [(.int z), (.int g)])) _
    refine XS.iconst X0.here hx rfl (hb hby own_d2_3) ?_
    show Steps p.tables e below (s₁.setTop (mkF m 4 #[.val (.ref a), .val (.int g), .val (.long d), .second, .val (.int z), .unset] [(.int (1 : Int32)), (.int z), (.int g)])) _
    refine XS.iadd X0.here hx rfl (hb hby own_d2_4) rfl ?_
    show Steps p.tables e below (s₁.setTop (mkF m 5 #[.val (.ref a), .val (.int g), .val (.long d), .second, .val (.int z), .unset] [(.int (z + (1 : Int32))), (.int g)])) _
    refine XS.ishr X0.here hx rfl (hb hby own_d2_5) rfl ?_
    show Steps p.tables e below (s₁.setTop (mkF m 6 #[.val (.ref a), .val (.int g), .val (.long d), .second, .val (.int z), .unset] [(.int (g >>> ((z + (1 : Int32)) &&& 31)))])) _
    refine XS.iconst X0.here hx rfl (hb hby own_d2_6) ?_
    show Steps p.tables e below (s₁.setTop (mkF m 7 #[.val (.ref a), .val (.int g), .val (.long d), .second, .val (.int z), .unset] [(.int (1 : Int32)), (.int (g >>> ((z + (1 : Int32)) &&& 31)))])) _
    refine XS.iand X0.here hx rfl (hb hby own_d2_7) rfl ?_
    show Steps p.tables e below (s₁.setTop (mkF m 8 #[.val (.ref a), .val (.int g), .val (.long d), .second, .val (.int z), .unset] [(.int ((g >>> ((z + (1 : Int32)) &&& 31)) &&& (1 : Int32)))])) _
    by_cases hc1 : ((g >>> ((z + (1 : Int32)) &&& 31)) &&& (1 : Int32)) = (0 : Int32)
    · skip
      refine XS.ifYes X0.here hx rfl (pc0 := 8) (pc' := 15) rfl (hb hby own_d2_8) rfl ((if0 _ _).trans (teq hc1).1) (by decide) (by decide) ?_
      show Steps p.tables e below (s₁.setTop (mkF m 15 #[.val (.ref a), .val (.int g), .val (.long d), .second, .val (.int z), .unset] [])) _
      refine XS.iconst X0.here hx rfl (hb hby own_d2_15) ?_
      exact castTop (congrArg (fun z_ => (mkF m 16 #[.val (.ref a), .val (.int g), .val (.long d), .second, .val (.int z), .unset] [(.int z_)])) (show (0 : Int32) = (if ¬ (((g >>> ((z + (1 : Int32)) &&& 31)) &&& (1 : Int32)) = (0 : Int32)) then (1 : Int32) else (0 : Int32)) from by rw [if_neg (not_not_intro hc1)])) k
    · skip
      refine XS.ifNo X0.here hx rfl (hb hby own_d2_8) rfl ((if0 _ _).trans (feq hc1).1) ?_
      show Steps p.tables e below (s₁.setTop (mkF m 11 #[.val (.ref a), .val (.int g), .val (.long d), .second, .val (.int z), .unset] [])) _
      refine XS.iconst X0.here hx rfl (hb hby own_d2_11) ?_
      show Steps p.tables e below (s₁.setTop (mkF m 12 #[.val (.ref a), .val (.int g), .val (.long d), .second, .val (.int z), .unset] [(.int (1 : Int32))])) _
      refine XS.goto X0.here hx rfl (pc0 := 12) (pc' := 16) rfl (hb hby own_d2_12) (by decide) (by decide) ?_
      exact castTop (congrArg (fun z_ => (mkF m 16 #[.val (.ref a), .val (.int g), .val (.long d), .second, .val (.int z), .unset] [(.int z_)])) (show (1 : Int32) = (if ¬ (((g >>> ((z + (1 : Int32)) &&& 31)) &&& (1 : Int32)) = (0 : Int32)) then (1 : Int32) else (0 : Int32)) from by rw [if_pos hc1])) k)
  obtain ⟨cq3, kq3, q3a, q3b, q3c⟩ := isOf hZ e0 E
  obtain ⟨_, _, ⟨T3, L3, k3, n3⟩, -, X3, ⟨Lc3, hQ3, l3, y3, z3⟩, st3⟩ := X0.virtualBack hx (y := (⟨"com/example/antigonish/antigonish/Relation", "holds", "(J)Z"⟩ : MethodName)) (z := (⟨"com/example/antigonish/antigonish/Relation", "holds", "(J)Z"⟩ : MethodName)) hown (mvT hZ (hw _ (List.mem_of_getElem? (i := 10) rfl))) (mvT hZ (hw _ (List.mem_of_getElem? (i := 11) rfl))) (notFace_of_selects (args := #[]) (mvT hZ (hw _ (List.mem_of_getElem? (i := 13) rfl)))) (mvT hZ (hw _ (List.mem_of_getElem? (i := 13) rfl))) (mvT hZ (hw _ (List.mem_of_getElem? (i := 12) rfl))) (by decide) (backOf (W := 0) (own_holds2 l Z a0 hw [] a d  h0 n0 Z0 F E) hZ (hw _ (List.mem_of_getElem? (i := 14) rfl)) (hw _ (List.mem_of_getElem? (i := 5) rfl)) (by decide) (by decide)) q3a q3c (g := (mkF m 20 #[.val (.ref a), .val (.int g), .val (.long d), .second, .val (.int z), .val (.int (if ¬ (((g >>> ((z + (1 : Int32)) &&& 31)) &&& (1 : Int32)) = (0 : Int32)) then (1 : Int32) else (0 : Int32)))] [(.long d), (.ref a)])) rfl (by rw [hml]; rfl) (Steps.refl _) (argsL := [(.long d)]) (rest := []) (lenOf own_pd1 rfl) rfl (by show 2 * 0 + _ ≤ _; exact Nat.le_of_eq rfl) (hb hby own_d2_20) (fun _ _ => ⟨rfl, e0, (by decide : 0 + 0 ≤ _), (by decide : 0 + 0 ≤ _)⟩)
  dsimp only [Pt.U, Pt.locs, Pt.cells, Pt.slots] at X3 l3 y3 z3 st3 hQ3
  subst l3 y3 z3
  obtain ⟨rfl, N3q, e3⟩ := hQ3
  have N3 := Fr.app N0 N3q
  obtain ⟨fs, hr, hrun, hended, hW, hsame⟩ := X3.leave (v := some (.int (1 : Int32))) (fun h => by rw [Bd.returns] at h; cases h)
  refine ⟨_, _, pre2 _ ?_, hrun, hended, _, _, rfl, ?_, ⟨_, rfl⟩, hW, hsame.mono (by decide) (by decide)⟩
  · show Steps p.tables e below (s₁.setTop (mkF m 16 #[.val (.ref a), .val (.int g), .val (.long d), .second, .val (.int z), .unset] [(.int (if ¬ (((g >>> ((z + (1 : Int32)) &&& 31)) &&& (1 : Int32)) = (0 : Int32)) then (1 : Int32) else (0 : Int32)))])) _
    refine XS.istore X0.here hx rfl (hb hby own_d2_16) rfl (l' := #[.val (.ref a), .val (.int g), .val (.long d), .second, .val (.int z), .val (.int (if ¬ (((g >>> ((z + (1 : Int32)) &&& 31)) &&& (1 : Int32)) = (0 : Int32)) then (1 : Int32) else (0 : Int32)))]) rfl ?_
    show Steps p.tables e below (s₁.setTop (mkF m 18 #[.val (.ref a), .val (.int g), .val (.long d), .second, .val (.int z), .val (.int (if ¬ (((g >>> ((z + (1 : Int32)) &&& 31)) &&& (1 : Int32)) = (0 : Int32)) then (1 : Int32) else (0 : Int32)))] [])) _
    refine XS.aloadN X0.here hx rfl (hb hby own_d2_18) rfl rfl ?_
    show Steps p.tables e below (s₁.setTop (mkF m 19 #[.val (.ref a), .val (.int g), .val (.long d), .second, .val (.int z), .val (.int (if ¬ (((g >>> ((z + (1 : Int32)) &&& 31)) &&& (1 : Int32)) = (0 : Int32)) then (1 : Int32) else (0 : Int32)))] [(.ref a)])) _
    refine XS.lloadN X0.here hx rfl (hb hby own_d2_19) rfl ?_
    show Steps p.tables e below (s₁.setTop (mkF m 20 #[.val (.ref a), .val (.int g), .val (.long d), .second, .val (.int z), .val (.int (if ¬ (((g >>> ((z + (1 : Int32)) &&& 31)) &&& (1 : Int32)) = (0 : Int32)) then (1 : Int32) else (0 : Int32)))] [(.long d), (.ref a)])) _
    refine st3.trans ?_
    show Steps p.tables e below (T3.setTop (mkF m 23 #[.val (.ref a), .val (.int g), .val (.long d), .second, .val (.int z), .val (.int (if ¬ (((g >>> ((z + (1 : Int32)) &&& 31)) &&& (1 : Int32)) = (0 : Int32)) then (1 : Int32) else (0 : Int32)))] [(.int (if ¬ (d < (0 : Int64)) then (1 : Int32) else (0 : Int32)))])) _
    refine XS.iload X3.here hx rfl (hb hby own_d2_23) rfl ?_
    show Steps p.tables e below (T3.setTop (mkF m 25 #[.val (.ref a), .val (.int g), .val (.long d), .second, .val (.int z), .val (.int (if ¬ (((g >>> ((z + (1 : Int32)) &&& 31)) &&& (1 : Int32)) = (0 : Int32)) then (1 : Int32) else (0 : Int32)))] [(.int (if ¬ (((g >>> ((z + (1 : Int32)) &&& 31)) &&& (1 : Int32)) = (0 : Int32)) then (1 : Int32) else (0 : Int32))), (.int (if ¬ (d < (0 : Int64)) then (1 : Int32) else (0 : Int32)))])) _
    refine XS.icmpNo X3.here hx rfl (hb hby own_d2_25) rfl (teq (by by_cases hp : ¬ (d < (0 : Int64)) <;> simp [hp, hq] : (if ¬ (d < (0 : Int64)) then (1 : Int32) else (0 : Int32)) = (if ¬ (((g >>> ((z + (1 : Int32)) &&& 31)) &&& (1 : Int32)) = (0 : Int32)) then (1 : Int32) else (0 : Int32)))).2 ?_
    show Steps p.tables e below (T3.setTop (mkF m 28 #[.val (.ref a), .val (.int g), .val (.long d), .second, .val (.int z), .val (.int (if ¬ (((g >>> ((z + (1 : Int32)) &&& 31)) &&& (1 : Int32)) = (0 : Int32)) then (1 : Int32) else (0 : Int32)))] [])) _
    refine XS.iconst X3.here hx rfl (hb hby own_d2_28) ?_
    show Steps p.tables e below (T3.setTop (mkF m 29 #[.val (.ref a), .val (.int g), .val (.long d), .second, .val (.int z), .val (.int (if ¬ (((g >>> ((z + (1 : Int32)) &&& 31)) &&& (1 : Int32)) = (0 : Int32)) then (1 : Int32) else (0 : Int32)))] [(.int (1 : Int32))])) _
    refine XS.goto X3.here hx rfl (pc0 := 29) (pc' := 33) rfl (hb hby own_d2_29) (by decide) (by decide) ?_
    show Steps p.tables e below (T3.setTop (mkF m 33 #[.val (.ref a), .val (.int g), .val (.long d), .second, .val (.int z), .val (.int (if ¬ (((g >>> ((z + (1 : Int32)) &&& 31)) &&& (1 : Int32)) = (0 : Int32)) then (1 : Int32) else (0 : Int32)))] [(.int (1 : Int32))])) _
    exact retN X3 hx (t := .boolean) Bd.returns (by simp) (hb hby own_d2_33) hr
  · show own_Q_own_agrees2 Z a g d z h0 n0 _ T3.heap _
    rw [e3]
    exact ⟨rfl, N3, rfl⟩
def own_Q_own_agrees3 (Z : State) (a : Addr) (g : Int32) (d : Int64) (z : Int32) (h0 : Heap) (n0 : Nat) (v : Option Value) (h : Heap) (L : List Loc) : Prop := v = some (.int 1) ∧ Fr n0 L ∧ h = h0
set_option maxRecDepth 65536 in
set_option maxHeartbeats 40000000 in
theorem own_agrees3 (l : Launch) (Z : State) (a0 : Array Value) (hw : ∀ d ∈ tables_1, d.before a0 Z = true) (ws : List Jvm.Cond) (a : Addr) (g : Int32) (d : Int64) (z : Int32) (h0 : Heap) (n0 : Nat) (Z0 : n0 ≤ h0.size) (F : Fld Z h0 a "java/lang/Enum" "ordinal" "I" (.int (3))) (E : Exa Z h0 a "com/example/antigonish/antigonish/Relation") (hq : (((g >>> ((z + (1 : Int32)) &&& 31)) &&& (1 : Int32)) = (0 : Int32)) ↔ ¬ ((0 : Int64) < d)) :
    MetFree l (⟨"com/example/antigonish/antigonish/RelationHoldsPinLaw", "agrees", "(Lcom/example/antigonish/antigonish/Relation;IJI)Z"⟩ : MethodName) (head1 (Jvm.Cond.code (⟨"com/example/antigonish/antigonish/RelationHoldsPinLaw", "agrees", "(Lcom/example/antigonish/antigonish/Relation;IJI)Z"⟩ : MethodName) method_3_code 6 (some .boolean) :: ws) ({ frames := 2, cells := 0, slots := 0, locals := 27 } : Room)) (fun as_ U => as_ = #[(.ref a), (.int g), (.long d), (.int z)] ∧ Z.Warmed39 U.vm ∧ U.heap = h0) (fun _ _ _ _ _ => True) (fun _ U o U' => ∃ v L, o = .returned v ∧ own_Q_own_agrees3 Z a g d z h0 n0 v U'.heap L ∧ FrameEnd U o U' L ({ frames := 2, cells := 0, slots := 0, locals := 27 } : Room).cells ({ frames := 2, cells := 0, slots := 0, locals := 27 } : Room).slots) := by
  refine MetFree.of_bodySF (plainFor_of_name own_pn0) hisR ?_
  intro p e s m args below meth c s₁ Bd hml0 hP hK
  obtain ⟨rfl, hZ, hh⟩ := hP
  have hx := Bd.exec
  have hby := Bd.bytes
  have hml : c.maxLocals = 6 := hml0
  have hown : s.vm.findClass "com/example/antigonish/antigonish/RelationHoldsPinLaw" = some m.cls := findClass_of_methodNamed Bd.named
  have hnm := (name_of_methodNamed Bd.named Bd.method).1
  have X0 : Stand p l e ({ frames := 2, cells := 0, slots := 0, locals := 27 } : Room) s m #[(.ref a), (.int g), (.long d), (.int z)] below meth c s₁ [] 0 0 := Stand.of_body Bd
  have e0 : s₁.heap = h0 := by rw [← hh, Bd.state]; rfl
  have N0 := Fr.nil n0
  have pre0 : ∀ t, Steps p.tables e below (s₁.setTop (mkF m 0 #[.val (.ref a), .val (.int g), .val (.long d), .second, .val (.int z), .unset] [])) t → Steps p.tables e below (s₁.setTop (entryFrame m #[(.ref a), (.int g), (.long d), (.int z)] 6)) t := fun t k => castTop (own_ef2 m a g d z) k
  have pre2 : ∀ t, Steps p.tables e below (s₁.setTop (mkF m 16 #[.val (.ref a), .val (.int g), .val (.long d), .second, .val (.int z), .unset] [(.int (if ¬ (((g >>> ((z + (1 : Int32)) &&& 31)) &&& (1 : Int32)) = (0 : Int32)) then (1 : Int32) else (0 : Int32)))])) t → Steps p.tables e below (s₁.setTop (entryFrame m #[(.ref a), (.int g), (.long d), (.int z)] 6)) t := fun t k => pre0 t (by
    show Steps p.tables e below (s₁.setTop (mkF m 0 #[.val (.ref a), .val (.int g), .val (.long d), .second, .val (.int z), .unset] [])) _
    refine XS.iloadN X0.here hx rfl (hb hby own_d2_0) rfl ?_
    show Steps p.tables e below (s₁.setTop (mkF m 1 #[.val (.ref a), .val (.int g), .val (.long d), .second, .val (.int z), .unset] [(.int g)])) _
    refine XS.iload X0.here hx rfl (hb hby own_d2_1) rfl ?_
    show Steps p.tables e below (s₁.setTop (mkF m 3 #[.val (.ref a), .val (.int g), .val (.long d), .second, .val (.int z), .unset] [(.int z), (.int g)])) _
    refine XS.iconst X0.here hx rfl (hb hby own_d2_3) ?_
    show Steps p.tables e below (s₁.setTop (mkF m 4 #[.val (.ref a), .val (.int g), .val (.long d), .second, .val (.int z), .unset] [(.int (1 : Int32)), (.int z), (.int g)])) _
    refine XS.iadd X0.here hx rfl (hb hby own_d2_4) rfl ?_
    show Steps p.tables e below (s₁.setTop (mkF m 5 #[.val (.ref a), .val (.int g), .val (.long d), .second, .val (.int z), .unset] [(.int (z + (1 : Int32))), (.int g)])) _
    refine XS.ishr X0.here hx rfl (hb hby own_d2_5) rfl ?_
    show Steps p.tables e below (s₁.setTop (mkF m 6 #[.val (.ref a), .val (.int g), .val (.long d), .second, .val (.int z), .unset] [(.int (g >>> ((z + (1 : Int32)) &&& 31)))])) _
    refine XS.iconst X0.here hx rfl (hb hby own_d2_6) ?_
    show Steps p.tables e below (s₁.setTop (mkF m 7 #[.val (.ref a), .val (.int g), .val (.long d), .second, .val (.int z), .unset] [(.int (1 : Int32)), (.int (g >>> ((z + (1 : Int32)) &&& 31)))])) _
    refine XS.iand X0.here hx rfl (hb hby own_d2_7) rfl ?_
    show Steps p.tables e below (s₁.setTop (mkF m 8 #[.val (.ref a), .val (.int g), .val (.long d), .second, .val (.int z), .unset] [(.int ((g >>> ((z + (1 : Int32)) &&& 31)) &&& (1 : Int32)))])) _
    by_cases hc1 : ((g >>> ((z + (1 : Int32)) &&& 31)) &&& (1 : Int32)) = (0 : Int32)
    · skip
      refine XS.ifYes X0.here hx rfl (pc0 := 8) (pc' := 15) rfl (hb hby own_d2_8) rfl ((if0 _ _).trans (teq hc1).1) (by decide) (by decide) ?_
      show Steps p.tables e below (s₁.setTop (mkF m 15 #[.val (.ref a), .val (.int g), .val (.long d), .second, .val (.int z), .unset] [])) _
      refine XS.iconst X0.here hx rfl (hb hby own_d2_15) ?_
      exact castTop (congrArg (fun z_ => (mkF m 16 #[.val (.ref a), .val (.int g), .val (.long d), .second, .val (.int z), .unset] [(.int z_)])) (show (0 : Int32) = (if ¬ (((g >>> ((z + (1 : Int32)) &&& 31)) &&& (1 : Int32)) = (0 : Int32)) then (1 : Int32) else (0 : Int32)) from by rw [if_neg (not_not_intro hc1)])) k
    · skip
      refine XS.ifNo X0.here hx rfl (hb hby own_d2_8) rfl ((if0 _ _).trans (feq hc1).1) ?_
      show Steps p.tables e below (s₁.setTop (mkF m 11 #[.val (.ref a), .val (.int g), .val (.long d), .second, .val (.int z), .unset] [])) _
      refine XS.iconst X0.here hx rfl (hb hby own_d2_11) ?_
      show Steps p.tables e below (s₁.setTop (mkF m 12 #[.val (.ref a), .val (.int g), .val (.long d), .second, .val (.int z), .unset] [(.int (1 : Int32))])) _
      refine XS.goto X0.here hx rfl (pc0 := 12) (pc' := 16) rfl (hb hby own_d2_12) (by decide) (by decide) ?_
      exact castTop (congrArg (fun z_ => (mkF m 16 #[.val (.ref a), .val (.int g), .val (.long d), .second, .val (.int z), .unset] [(.int z_)])) (show (1 : Int32) = (if ¬ (((g >>> ((z + (1 : Int32)) &&& 31)) &&& (1 : Int32)) = (0 : Int32)) then (1 : Int32) else (0 : Int32)) from by rw [if_pos hc1])) k)
  obtain ⟨cq3, kq3, q3a, q3b, q3c⟩ := isOf hZ e0 E
  obtain ⟨_, _, ⟨T3, L3, k3, n3⟩, -, X3, ⟨Lc3, hQ3, l3, y3, z3⟩, st3⟩ := X0.virtualBack hx (y := (⟨"com/example/antigonish/antigonish/Relation", "holds", "(J)Z"⟩ : MethodName)) (z := (⟨"com/example/antigonish/antigonish/Relation", "holds", "(J)Z"⟩ : MethodName)) hown (mvT hZ (hw _ (List.mem_of_getElem? (i := 10) rfl))) (mvT hZ (hw _ (List.mem_of_getElem? (i := 11) rfl))) (notFace_of_selects (args := #[]) (mvT hZ (hw _ (List.mem_of_getElem? (i := 13) rfl)))) (mvT hZ (hw _ (List.mem_of_getElem? (i := 13) rfl))) (mvT hZ (hw _ (List.mem_of_getElem? (i := 12) rfl))) (by decide) (backOf (W := 0) (own_holds3 l Z a0 hw [] a d  h0 n0 Z0 F E) hZ (hw _ (List.mem_of_getElem? (i := 14) rfl)) (hw _ (List.mem_of_getElem? (i := 5) rfl)) (by decide) (by decide)) q3a q3c (g := (mkF m 20 #[.val (.ref a), .val (.int g), .val (.long d), .second, .val (.int z), .val (.int (if ¬ (((g >>> ((z + (1 : Int32)) &&& 31)) &&& (1 : Int32)) = (0 : Int32)) then (1 : Int32) else (0 : Int32)))] [(.long d), (.ref a)])) rfl (by rw [hml]; rfl) (Steps.refl _) (argsL := [(.long d)]) (rest := []) (lenOf own_pd1 rfl) rfl (by show 2 * 0 + _ ≤ _; exact Nat.le_of_eq rfl) (hb hby own_d2_20) (fun _ _ => ⟨rfl, e0, (by decide : 0 + 0 ≤ _), (by decide : 0 + 0 ≤ _)⟩)
  dsimp only [Pt.U, Pt.locs, Pt.cells, Pt.slots] at X3 l3 y3 z3 st3 hQ3
  subst l3 y3 z3
  obtain ⟨rfl, N3q, e3⟩ := hQ3
  have N3 := Fr.app N0 N3q
  obtain ⟨fs, hr, hrun, hended, hW, hsame⟩ := X3.leave (v := some (.int (1 : Int32))) (fun h => by rw [Bd.returns] at h; cases h)
  refine ⟨_, _, pre2 _ ?_, hrun, hended, _, _, rfl, ?_, ⟨_, rfl⟩, hW, hsame.mono (by decide) (by decide)⟩
  · show Steps p.tables e below (s₁.setTop (mkF m 16 #[.val (.ref a), .val (.int g), .val (.long d), .second, .val (.int z), .unset] [(.int (if ¬ (((g >>> ((z + (1 : Int32)) &&& 31)) &&& (1 : Int32)) = (0 : Int32)) then (1 : Int32) else (0 : Int32)))])) _
    refine XS.istore X0.here hx rfl (hb hby own_d2_16) rfl (l' := #[.val (.ref a), .val (.int g), .val (.long d), .second, .val (.int z), .val (.int (if ¬ (((g >>> ((z + (1 : Int32)) &&& 31)) &&& (1 : Int32)) = (0 : Int32)) then (1 : Int32) else (0 : Int32)))]) rfl ?_
    show Steps p.tables e below (s₁.setTop (mkF m 18 #[.val (.ref a), .val (.int g), .val (.long d), .second, .val (.int z), .val (.int (if ¬ (((g >>> ((z + (1 : Int32)) &&& 31)) &&& (1 : Int32)) = (0 : Int32)) then (1 : Int32) else (0 : Int32)))] [])) _
    refine XS.aloadN X0.here hx rfl (hb hby own_d2_18) rfl rfl ?_
    show Steps p.tables e below (s₁.setTop (mkF m 19 #[.val (.ref a), .val (.int g), .val (.long d), .second, .val (.int z), .val (.int (if ¬ (((g >>> ((z + (1 : Int32)) &&& 31)) &&& (1 : Int32)) = (0 : Int32)) then (1 : Int32) else (0 : Int32)))] [(.ref a)])) _
    refine XS.lloadN X0.here hx rfl (hb hby own_d2_19) rfl ?_
    show Steps p.tables e below (s₁.setTop (mkF m 20 #[.val (.ref a), .val (.int g), .val (.long d), .second, .val (.int z), .val (.int (if ¬ (((g >>> ((z + (1 : Int32)) &&& 31)) &&& (1 : Int32)) = (0 : Int32)) then (1 : Int32) else (0 : Int32)))] [(.long d), (.ref a)])) _
    refine st3.trans ?_
    show Steps p.tables e below (T3.setTop (mkF m 23 #[.val (.ref a), .val (.int g), .val (.long d), .second, .val (.int z), .val (.int (if ¬ (((g >>> ((z + (1 : Int32)) &&& 31)) &&& (1 : Int32)) = (0 : Int32)) then (1 : Int32) else (0 : Int32)))] [(.int (if (0 : Int64) < d then (1 : Int32) else (0 : Int32)))])) _
    refine XS.iload X3.here hx rfl (hb hby own_d2_23) rfl ?_
    show Steps p.tables e below (T3.setTop (mkF m 25 #[.val (.ref a), .val (.int g), .val (.long d), .second, .val (.int z), .val (.int (if ¬ (((g >>> ((z + (1 : Int32)) &&& 31)) &&& (1 : Int32)) = (0 : Int32)) then (1 : Int32) else (0 : Int32)))] [(.int (if ¬ (((g >>> ((z + (1 : Int32)) &&& 31)) &&& (1 : Int32)) = (0 : Int32)) then (1 : Int32) else (0 : Int32))), (.int (if (0 : Int64) < d then (1 : Int32) else (0 : Int32)))])) _
    refine XS.icmpNo X3.here hx rfl (hb hby own_d2_25) rfl (teq (by by_cases hp : (0 : Int64) < d <;> simp [hp, hq] : (if (0 : Int64) < d then (1 : Int32) else (0 : Int32)) = (if ¬ (((g >>> ((z + (1 : Int32)) &&& 31)) &&& (1 : Int32)) = (0 : Int32)) then (1 : Int32) else (0 : Int32)))).2 ?_
    show Steps p.tables e below (T3.setTop (mkF m 28 #[.val (.ref a), .val (.int g), .val (.long d), .second, .val (.int z), .val (.int (if ¬ (((g >>> ((z + (1 : Int32)) &&& 31)) &&& (1 : Int32)) = (0 : Int32)) then (1 : Int32) else (0 : Int32)))] [])) _
    refine XS.iconst X3.here hx rfl (hb hby own_d2_28) ?_
    show Steps p.tables e below (T3.setTop (mkF m 29 #[.val (.ref a), .val (.int g), .val (.long d), .second, .val (.int z), .val (.int (if ¬ (((g >>> ((z + (1 : Int32)) &&& 31)) &&& (1 : Int32)) = (0 : Int32)) then (1 : Int32) else (0 : Int32)))] [(.int (1 : Int32))])) _
    refine XS.goto X3.here hx rfl (pc0 := 29) (pc' := 33) rfl (hb hby own_d2_29) (by decide) (by decide) ?_
    show Steps p.tables e below (T3.setTop (mkF m 33 #[.val (.ref a), .val (.int g), .val (.long d), .second, .val (.int z), .val (.int (if ¬ (((g >>> ((z + (1 : Int32)) &&& 31)) &&& (1 : Int32)) = (0 : Int32)) then (1 : Int32) else (0 : Int32)))] [(.int (1 : Int32))])) _
    exact retN X3 hx (t := .boolean) Bd.returns (by simp) (hb hby own_d2_33) hr
  · show own_Q_own_agrees3 Z a g d z h0 n0 _ T3.heap _
    rw [e3]
    exact ⟨rfl, N3, rfl⟩
def own_Q_own_agrees4 (Z : State) (a : Addr) (g : Int32) (d : Int64) (z : Int32) (h0 : Heap) (n0 : Nat) (v : Option Value) (h : Heap) (L : List Loc) : Prop := v = some (.int 1) ∧ Fr n0 L ∧ h = h0
set_option maxRecDepth 65536 in
set_option maxHeartbeats 40000000 in
theorem own_agrees4 (l : Launch) (Z : State) (a0 : Array Value) (hw : ∀ d ∈ tables_1, d.before a0 Z = true) (ws : List Jvm.Cond) (a : Addr) (g : Int32) (d : Int64) (z : Int32) (h0 : Heap) (n0 : Nat) (Z0 : n0 ≤ h0.size) (F : Fld Z h0 a "java/lang/Enum" "ordinal" "I" (.int (4))) (E : Exa Z h0 a "com/example/antigonish/antigonish/Relation") (hq : (((g >>> ((z + (1 : Int32)) &&& 31)) &&& (1 : Int32)) = (0 : Int32)) ↔ ¬ (d = (0 : Int64))) :
    MetFree l (⟨"com/example/antigonish/antigonish/RelationHoldsPinLaw", "agrees", "(Lcom/example/antigonish/antigonish/Relation;IJI)Z"⟩ : MethodName) (head1 (Jvm.Cond.code (⟨"com/example/antigonish/antigonish/RelationHoldsPinLaw", "agrees", "(Lcom/example/antigonish/antigonish/Relation;IJI)Z"⟩ : MethodName) method_3_code 6 (some .boolean) :: ws) ({ frames := 2, cells := 0, slots := 0, locals := 27 } : Room)) (fun as_ U => as_ = #[(.ref a), (.int g), (.long d), (.int z)] ∧ Z.Warmed39 U.vm ∧ U.heap = h0) (fun _ _ _ _ _ => True) (fun _ U o U' => ∃ v L, o = .returned v ∧ own_Q_own_agrees4 Z a g d z h0 n0 v U'.heap L ∧ FrameEnd U o U' L ({ frames := 2, cells := 0, slots := 0, locals := 27 } : Room).cells ({ frames := 2, cells := 0, slots := 0, locals := 27 } : Room).slots) := by
  refine MetFree.of_bodySF (plainFor_of_name own_pn0) hisR ?_
  intro p e s m args below meth c s₁ Bd hml0 hP hK
  obtain ⟨rfl, hZ, hh⟩ := hP
  have hx := Bd.exec
  have hby := Bd.bytes
  have hml : c.maxLocals = 6 := hml0
  have hown : s.vm.findClass "com/example/antigonish/antigonish/RelationHoldsPinLaw" = some m.cls := findClass_of_methodNamed Bd.named
  have hnm := (name_of_methodNamed Bd.named Bd.method).1
  have X0 : Stand p l e ({ frames := 2, cells := 0, slots := 0, locals := 27 } : Room) s m #[(.ref a), (.int g), (.long d), (.int z)] below meth c s₁ [] 0 0 := Stand.of_body Bd
  have e0 : s₁.heap = h0 := by rw [← hh, Bd.state]; rfl
  have N0 := Fr.nil n0
  have pre0 : ∀ t, Steps p.tables e below (s₁.setTop (mkF m 0 #[.val (.ref a), .val (.int g), .val (.long d), .second, .val (.int z), .unset] [])) t → Steps p.tables e below (s₁.setTop (entryFrame m #[(.ref a), (.int g), (.long d), (.int z)] 6)) t := fun t k => castTop (own_ef2 m a g d z) k
  have pre2 : ∀ t, Steps p.tables e below (s₁.setTop (mkF m 16 #[.val (.ref a), .val (.int g), .val (.long d), .second, .val (.int z), .unset] [(.int (if ¬ (((g >>> ((z + (1 : Int32)) &&& 31)) &&& (1 : Int32)) = (0 : Int32)) then (1 : Int32) else (0 : Int32)))])) t → Steps p.tables e below (s₁.setTop (entryFrame m #[(.ref a), (.int g), (.long d), (.int z)] 6)) t := fun t k => pre0 t (by
    show Steps p.tables e below (s₁.setTop (mkF m 0 #[.val (.ref a), .val (.int g), .val (.long d), .second, .val (.int z), .unset] [])) _
    refine XS.iloadN X0.here hx rfl (hb hby own_d2_0) rfl ?_
    show Steps p.tables e below (s₁.setTop (mkF m 1 #[.val (.ref a), .val (.int g), .val (.long d), .second, .val (.int z), .unset] [(.int g)])) _
    refine XS.iload X0.here hx rfl (hb hby own_d2_1) rfl ?_
    show Steps p.tables e below (s₁.setTop (mkF m 3 #[.val (.ref a), .val (.int g), .val (.long d), .second, .val (.int z), .unset] [(.int z), (.int g)])) _
    refine XS.iconst X0.here hx rfl (hb hby own_d2_3) ?_
    show Steps p.tables e below (s₁.setTop (mkF m 4 #[.val (.ref a), .val (.int g), .val (.long d), .second, .val (.int z), .unset] [(.int (1 : Int32)), (.int z), (.int g)])) _
    refine XS.iadd X0.here hx rfl (hb hby own_d2_4) rfl ?_
    show Steps p.tables e below (s₁.setTop (mkF m 5 #[.val (.ref a), .val (.int g), .val (.long d), .second, .val (.int z), .unset] [(.int (z + (1 : Int32))), (.int g)])) _
    refine XS.ishr X0.here hx rfl (hb hby own_d2_5) rfl ?_
    show Steps p.tables e below (s₁.setTop (mkF m 6 #[.val (.ref a), .val (.int g), .val (.long d), .second, .val (.int z), .unset] [(.int (g >>> ((z + (1 : Int32)) &&& 31)))])) _
    refine XS.iconst X0.here hx rfl (hb hby own_d2_6) ?_
    show Steps p.tables e below (s₁.setTop (mkF m 7 #[.val (.ref a), .val (.int g), .val (.long d), .second, .val (.int z), .unset] [(.int (1 : Int32)), (.int (g >>> ((z + (1 : Int32)) &&& 31)))])) _
    refine XS.iand X0.here hx rfl (hb hby own_d2_7) rfl ?_
    show Steps p.tables e below (s₁.setTop (mkF m 8 #[.val (.ref a), .val (.int g), .val (.long d), .second, .val (.int z), .unset] [(.int ((g >>> ((z + (1 : Int32)) &&& 31)) &&& (1 : Int32)))])) _
    by_cases hc1 : ((g >>> ((z + (1 : Int32)) &&& 31)) &&& (1 : Int32)) = (0 : Int32)
    · skip
      refine XS.ifYes X0.here hx rfl (pc0 := 8) (pc' := 15) rfl (hb hby own_d2_8) rfl ((if0 _ _).trans (teq hc1).1) (by decide) (by decide) ?_
      show Steps p.tables e below (s₁.setTop (mkF m 15 #[.val (.ref a), .val (.int g), .val (.long d), .second, .val (.int z), .unset] [])) _
      refine XS.iconst X0.here hx rfl (hb hby own_d2_15) ?_
      exact castTop (congrArg (fun z_ => (mkF m 16 #[.val (.ref a), .val (.int g), .val (.long d), .second, .val (.int z), .unset] [(.int z_)])) (show (0 : Int32) = (if ¬ (((g >>> ((z + (1 : Int32)) &&& 31)) &&& (1 : Int32)) = (0 : Int32)) then (1 : Int32) else (0 : Int32)) from by rw [if_neg (not_not_intro hc1)])) k
    · skip
      refine XS.ifNo X0.here hx rfl (hb hby own_d2_8) rfl ((if0 _ _).trans (feq hc1).1) ?_
      show Steps p.tables e below (s₁.setTop (mkF m 11 #[.val (.ref a), .val (.int g), .val (.long d), .second, .val (.int z), .unset] [])) _
      refine XS.iconst X0.here hx rfl (hb hby own_d2_11) ?_
      show Steps p.tables e below (s₁.setTop (mkF m 12 #[.val (.ref a), .val (.int g), .val (.long d), .second, .val (.int z), .unset] [(.int (1 : Int32))])) _
      refine XS.goto X0.here hx rfl (pc0 := 12) (pc' := 16) rfl (hb hby own_d2_12) (by decide) (by decide) ?_
      exact castTop (congrArg (fun z_ => (mkF m 16 #[.val (.ref a), .val (.int g), .val (.long d), .second, .val (.int z), .unset] [(.int z_)])) (show (1 : Int32) = (if ¬ (((g >>> ((z + (1 : Int32)) &&& 31)) &&& (1 : Int32)) = (0 : Int32)) then (1 : Int32) else (0 : Int32)) from by rw [if_pos hc1])) k)
  obtain ⟨cq3, kq3, q3a, q3b, q3c⟩ := isOf hZ e0 E
  obtain ⟨_, _, ⟨T3, L3, k3, n3⟩, -, X3, ⟨Lc3, hQ3, l3, y3, z3⟩, st3⟩ := X0.virtualBack hx (y := (⟨"com/example/antigonish/antigonish/Relation", "holds", "(J)Z"⟩ : MethodName)) (z := (⟨"com/example/antigonish/antigonish/Relation", "holds", "(J)Z"⟩ : MethodName)) hown (mvT hZ (hw _ (List.mem_of_getElem? (i := 10) rfl))) (mvT hZ (hw _ (List.mem_of_getElem? (i := 11) rfl))) (notFace_of_selects (args := #[]) (mvT hZ (hw _ (List.mem_of_getElem? (i := 13) rfl)))) (mvT hZ (hw _ (List.mem_of_getElem? (i := 13) rfl))) (mvT hZ (hw _ (List.mem_of_getElem? (i := 12) rfl))) (by decide) (backOf (W := 0) (own_holds4 l Z a0 hw [] a d  h0 n0 Z0 F E) hZ (hw _ (List.mem_of_getElem? (i := 14) rfl)) (hw _ (List.mem_of_getElem? (i := 5) rfl)) (by decide) (by decide)) q3a q3c (g := (mkF m 20 #[.val (.ref a), .val (.int g), .val (.long d), .second, .val (.int z), .val (.int (if ¬ (((g >>> ((z + (1 : Int32)) &&& 31)) &&& (1 : Int32)) = (0 : Int32)) then (1 : Int32) else (0 : Int32)))] [(.long d), (.ref a)])) rfl (by rw [hml]; rfl) (Steps.refl _) (argsL := [(.long d)]) (rest := []) (lenOf own_pd1 rfl) rfl (by show 2 * 0 + _ ≤ _; exact Nat.le_of_eq rfl) (hb hby own_d2_20) (fun _ _ => ⟨rfl, e0, (by decide : 0 + 0 ≤ _), (by decide : 0 + 0 ≤ _)⟩)
  dsimp only [Pt.U, Pt.locs, Pt.cells, Pt.slots] at X3 l3 y3 z3 st3 hQ3
  subst l3 y3 z3
  obtain ⟨rfl, N3q, e3⟩ := hQ3
  have N3 := Fr.app N0 N3q
  obtain ⟨fs, hr, hrun, hended, hW, hsame⟩ := X3.leave (v := some (.int (1 : Int32))) (fun h => by rw [Bd.returns] at h; cases h)
  refine ⟨_, _, pre2 _ ?_, hrun, hended, _, _, rfl, ?_, ⟨_, rfl⟩, hW, hsame.mono (by decide) (by decide)⟩
  · show Steps p.tables e below (s₁.setTop (mkF m 16 #[.val (.ref a), .val (.int g), .val (.long d), .second, .val (.int z), .unset] [(.int (if ¬ (((g >>> ((z + (1 : Int32)) &&& 31)) &&& (1 : Int32)) = (0 : Int32)) then (1 : Int32) else (0 : Int32)))])) _
    refine XS.istore X0.here hx rfl (hb hby own_d2_16) rfl (l' := #[.val (.ref a), .val (.int g), .val (.long d), .second, .val (.int z), .val (.int (if ¬ (((g >>> ((z + (1 : Int32)) &&& 31)) &&& (1 : Int32)) = (0 : Int32)) then (1 : Int32) else (0 : Int32)))]) rfl ?_
    show Steps p.tables e below (s₁.setTop (mkF m 18 #[.val (.ref a), .val (.int g), .val (.long d), .second, .val (.int z), .val (.int (if ¬ (((g >>> ((z + (1 : Int32)) &&& 31)) &&& (1 : Int32)) = (0 : Int32)) then (1 : Int32) else (0 : Int32)))] [])) _
    refine XS.aloadN X0.here hx rfl (hb hby own_d2_18) rfl rfl ?_
    show Steps p.tables e below (s₁.setTop (mkF m 19 #[.val (.ref a), .val (.int g), .val (.long d), .second, .val (.int z), .val (.int (if ¬ (((g >>> ((z + (1 : Int32)) &&& 31)) &&& (1 : Int32)) = (0 : Int32)) then (1 : Int32) else (0 : Int32)))] [(.ref a)])) _
    refine XS.lloadN X0.here hx rfl (hb hby own_d2_19) rfl ?_
    show Steps p.tables e below (s₁.setTop (mkF m 20 #[.val (.ref a), .val (.int g), .val (.long d), .second, .val (.int z), .val (.int (if ¬ (((g >>> ((z + (1 : Int32)) &&& 31)) &&& (1 : Int32)) = (0 : Int32)) then (1 : Int32) else (0 : Int32)))] [(.long d), (.ref a)])) _
    refine st3.trans ?_
    show Steps p.tables e below (T3.setTop (mkF m 23 #[.val (.ref a), .val (.int g), .val (.long d), .second, .val (.int z), .val (.int (if ¬ (((g >>> ((z + (1 : Int32)) &&& 31)) &&& (1 : Int32)) = (0 : Int32)) then (1 : Int32) else (0 : Int32)))] [(.int (if d = (0 : Int64) then (1 : Int32) else (0 : Int32)))])) _
    refine XS.iload X3.here hx rfl (hb hby own_d2_23) rfl ?_
    show Steps p.tables e below (T3.setTop (mkF m 25 #[.val (.ref a), .val (.int g), .val (.long d), .second, .val (.int z), .val (.int (if ¬ (((g >>> ((z + (1 : Int32)) &&& 31)) &&& (1 : Int32)) = (0 : Int32)) then (1 : Int32) else (0 : Int32)))] [(.int (if ¬ (((g >>> ((z + (1 : Int32)) &&& 31)) &&& (1 : Int32)) = (0 : Int32)) then (1 : Int32) else (0 : Int32))), (.int (if d = (0 : Int64) then (1 : Int32) else (0 : Int32)))])) _
    refine XS.icmpNo X3.here hx rfl (hb hby own_d2_25) rfl (teq (by by_cases hp : d = (0 : Int64) <;> simp [hp, hq] : (if d = (0 : Int64) then (1 : Int32) else (0 : Int32)) = (if ¬ (((g >>> ((z + (1 : Int32)) &&& 31)) &&& (1 : Int32)) = (0 : Int32)) then (1 : Int32) else (0 : Int32)))).2 ?_
    show Steps p.tables e below (T3.setTop (mkF m 28 #[.val (.ref a), .val (.int g), .val (.long d), .second, .val (.int z), .val (.int (if ¬ (((g >>> ((z + (1 : Int32)) &&& 31)) &&& (1 : Int32)) = (0 : Int32)) then (1 : Int32) else (0 : Int32)))] [])) _
    refine XS.iconst X3.here hx rfl (hb hby own_d2_28) ?_
    show Steps p.tables e below (T3.setTop (mkF m 29 #[.val (.ref a), .val (.int g), .val (.long d), .second, .val (.int z), .val (.int (if ¬ (((g >>> ((z + (1 : Int32)) &&& 31)) &&& (1 : Int32)) = (0 : Int32)) then (1 : Int32) else (0 : Int32)))] [(.int (1 : Int32))])) _
    refine XS.goto X3.here hx rfl (pc0 := 29) (pc' := 33) rfl (hb hby own_d2_29) (by decide) (by decide) ?_
    show Steps p.tables e below (T3.setTop (mkF m 33 #[.val (.ref a), .val (.int g), .val (.long d), .second, .val (.int z), .val (.int (if ¬ (((g >>> ((z + (1 : Int32)) &&& 31)) &&& (1 : Int32)) = (0 : Int32)) then (1 : Int32) else (0 : Int32)))] [(.int (1 : Int32))])) _
    exact retN X3 hx (t := .boolean) Bd.returns (by simp) (hb hby own_d2_33) hr
  · show own_Q_own_agrees4 Z a g d z h0 n0 _ T3.heap _
    rw [e3]
    exact ⟨rfl, N3, rfl⟩
def own_Q_own_agrees5 (Z : State) (a : Addr) (g : Int32) (d : Int64) (z : Int32) (h0 : Heap) (n0 : Nat) (v : Option Value) (h : Heap) (L : List Loc) : Prop := v = some (.int 1) ∧ Fr n0 L ∧ h = h0
set_option maxRecDepth 65536 in
set_option maxHeartbeats 40000000 in
theorem own_agrees5 (l : Launch) (Z : State) (a0 : Array Value) (hw : ∀ d ∈ tables_1, d.before a0 Z = true) (ws : List Jvm.Cond) (a : Addr) (g : Int32) (d : Int64) (z : Int32) (h0 : Heap) (n0 : Nat) (Z0 : n0 ≤ h0.size) (F : Fld Z h0 a "java/lang/Enum" "ordinal" "I" (.int (5))) (E : Exa Z h0 a "com/example/antigonish/antigonish/Relation") (hq : (((g >>> ((z + (1 : Int32)) &&& 31)) &&& (1 : Int32)) = (0 : Int32)) ↔ ¬ (¬ (d = (0 : Int64)))) :
    MetFree l (⟨"com/example/antigonish/antigonish/RelationHoldsPinLaw", "agrees", "(Lcom/example/antigonish/antigonish/Relation;IJI)Z"⟩ : MethodName) (head1 (Jvm.Cond.code (⟨"com/example/antigonish/antigonish/RelationHoldsPinLaw", "agrees", "(Lcom/example/antigonish/antigonish/Relation;IJI)Z"⟩ : MethodName) method_3_code 6 (some .boolean) :: ws) ({ frames := 2, cells := 0, slots := 0, locals := 27 } : Room)) (fun as_ U => as_ = #[(.ref a), (.int g), (.long d), (.int z)] ∧ Z.Warmed39 U.vm ∧ U.heap = h0) (fun _ _ _ _ _ => True) (fun _ U o U' => ∃ v L, o = .returned v ∧ own_Q_own_agrees5 Z a g d z h0 n0 v U'.heap L ∧ FrameEnd U o U' L ({ frames := 2, cells := 0, slots := 0, locals := 27 } : Room).cells ({ frames := 2, cells := 0, slots := 0, locals := 27 } : Room).slots) := by
  refine MetFree.of_bodySF (plainFor_of_name own_pn0) hisR ?_
  intro p e s m args below meth c s₁ Bd hml0 hP hK
  obtain ⟨rfl, hZ, hh⟩ := hP
  have hx := Bd.exec
  have hby := Bd.bytes
  have hml : c.maxLocals = 6 := hml0
  have hown : s.vm.findClass "com/example/antigonish/antigonish/RelationHoldsPinLaw" = some m.cls := findClass_of_methodNamed Bd.named
  have hnm := (name_of_methodNamed Bd.named Bd.method).1
  have X0 : Stand p l e ({ frames := 2, cells := 0, slots := 0, locals := 27 } : Room) s m #[(.ref a), (.int g), (.long d), (.int z)] below meth c s₁ [] 0 0 := Stand.of_body Bd
  have e0 : s₁.heap = h0 := by rw [← hh, Bd.state]; rfl
  have N0 := Fr.nil n0
  have pre0 : ∀ t, Steps p.tables e below (s₁.setTop (mkF m 0 #[.val (.ref a), .val (.int g), .val (.long d), .second, .val (.int z), .unset] [])) t → Steps p.tables e below (s₁.setTop (entryFrame m #[(.ref a), (.int g), (.long d), (.int z)] 6)) t := fun t k => castTop (own_ef2 m a g d z) k
  have pre2 : ∀ t, Steps p.tables e below (s₁.setTop (mkF m 16 #[.val (.ref a), .val (.int g), .val (.long d), .second, .val (.int z), .unset] [(.int (if ¬ (((g >>> ((z + (1 : Int32)) &&& 31)) &&& (1 : Int32)) = (0 : Int32)) then (1 : Int32) else (0 : Int32)))])) t → Steps p.tables e below (s₁.setTop (entryFrame m #[(.ref a), (.int g), (.long d), (.int z)] 6)) t := fun t k => pre0 t (by
    show Steps p.tables e below (s₁.setTop (mkF m 0 #[.val (.ref a), .val (.int g), .val (.long d), .second, .val (.int z), .unset] [])) _
    refine XS.iloadN X0.here hx rfl (hb hby own_d2_0) rfl ?_
    show Steps p.tables e below (s₁.setTop (mkF m 1 #[.val (.ref a), .val (.int g), .val (.long d), .second, .val (.int z), .unset] [(.int g)])) _
    refine XS.iload X0.here hx rfl (hb hby own_d2_1) rfl ?_
    show Steps p.tables e below (s₁.setTop (mkF m 3 #[.val (.ref a), .val (.int g), .val (.long d), .second, .val (.int z), .unset] [(.int z), (.int g)])) _
    refine XS.iconst X0.here hx rfl (hb hby own_d2_3) ?_
    show Steps p.tables e below (s₁.setTop (mkF m 4 #[.val (.ref a), .val (.int g), .val (.long d), .second, .val (.int z), .unset] [(.int (1 : Int32)), (.int z), (.int g)])) _
    refine XS.iadd X0.here hx rfl (hb hby own_d2_4) rfl ?_
    show Steps p.tables e below (s₁.setTop (mkF m 5 #[.val (.ref a), .val (.int g), .val (.long d), .second, .val (.int z), .unset] [(.int (z + (1 : Int32))), (.int g)])) _
    refine XS.ishr X0.here hx rfl (hb hby own_d2_5) rfl ?_
    show Steps p.tables e below (s₁.setTop (mkF m 6 #[.val (.ref a), .val (.int g), .val (.long d), .second, .val (.int z), .unset] [(.int (g >>> ((z + (1 : Int32)) &&& 31)))])) _
    refine XS.iconst X0.here hx rfl (hb hby own_d2_6) ?_
    show Steps p.tables e below (s₁.setTop (mkF m 7 #[.val (.ref a), .val (.int g), .val (.long d), .second, .val (.int z), .unset] [(.int (1 : Int32)), (.int (g >>> ((z + (1 : Int32)) &&& 31)))])) _
    refine XS.iand X0.here hx rfl (hb hby own_d2_7) rfl ?_
    show Steps p.tables e below (s₁.setTop (mkF m 8 #[.val (.ref a), .val (.int g), .val (.long d), .second, .val (.int z), .unset] [(.int ((g >>> ((z + (1 : Int32)) &&& 31)) &&& (1 : Int32)))])) _
    by_cases hc1 : ((g >>> ((z + (1 : Int32)) &&& 31)) &&& (1 : Int32)) = (0 : Int32)
    · skip
      refine XS.ifYes X0.here hx rfl (pc0 := 8) (pc' := 15) rfl (hb hby own_d2_8) rfl ((if0 _ _).trans (teq hc1).1) (by decide) (by decide) ?_
      show Steps p.tables e below (s₁.setTop (mkF m 15 #[.val (.ref a), .val (.int g), .val (.long d), .second, .val (.int z), .unset] [])) _
      refine XS.iconst X0.here hx rfl (hb hby own_d2_15) ?_
      exact castTop (congrArg (fun z_ => (mkF m 16 #[.val (.ref a), .val (.int g), .val (.long d), .second, .val (.int z), .unset] [(.int z_)])) (show (0 : Int32) = (if ¬ (((g >>> ((z + (1 : Int32)) &&& 31)) &&& (1 : Int32)) = (0 : Int32)) then (1 : Int32) else (0 : Int32)) from by rw [if_neg (not_not_intro hc1)])) k
    · skip
      refine XS.ifNo X0.here hx rfl (hb hby own_d2_8) rfl ((if0 _ _).trans (feq hc1).1) ?_
      show Steps p.tables e below (s₁.setTop (mkF m 11 #[.val (.ref a), .val (.int g), .val (.long d), .second, .val (.int z), .unset] [])) _
      refine XS.iconst X0.here hx rfl (hb hby own_d2_11) ?_
      show Steps p.tables e below (s₁.setTop (mkF m 12 #[.val (.ref a), .val (.int g), .val (.long d), .second, .val (.int z), .unset] [(.int (1 : Int32))])) _
      refine XS.goto X0.here hx rfl (pc0 := 12) (pc' := 16) rfl (hb hby own_d2_12) (by decide) (by decide) ?_
      exact castTop (congrArg (fun z_ => (mkF m 16 #[.val (.ref a), .val (.int g), .val (.long d), .second, .val (.int z), .unset] [(.int z_)])) (show (1 : Int32) = (if ¬ (((g >>> ((z + (1 : Int32)) &&& 31)) &&& (1 : Int32)) = (0 : Int32)) then (1 : Int32) else (0 : Int32)) from by rw [if_pos hc1])) k)
  obtain ⟨cq3, kq3, q3a, q3b, q3c⟩ := isOf hZ e0 E
  obtain ⟨_, _, ⟨T3, L3, k3, n3⟩, -, X3, ⟨Lc3, hQ3, l3, y3, z3⟩, st3⟩ := X0.virtualBack hx (y := (⟨"com/example/antigonish/antigonish/Relation", "holds", "(J)Z"⟩ : MethodName)) (z := (⟨"com/example/antigonish/antigonish/Relation", "holds", "(J)Z"⟩ : MethodName)) hown (mvT hZ (hw _ (List.mem_of_getElem? (i := 10) rfl))) (mvT hZ (hw _ (List.mem_of_getElem? (i := 11) rfl))) (notFace_of_selects (args := #[]) (mvT hZ (hw _ (List.mem_of_getElem? (i := 13) rfl)))) (mvT hZ (hw _ (List.mem_of_getElem? (i := 13) rfl))) (mvT hZ (hw _ (List.mem_of_getElem? (i := 12) rfl))) (by decide) (backOf (W := 0) (own_holds5 l Z a0 hw [] a d  h0 n0 Z0 F E) hZ (hw _ (List.mem_of_getElem? (i := 14) rfl)) (hw _ (List.mem_of_getElem? (i := 5) rfl)) (by decide) (by decide)) q3a q3c (g := (mkF m 20 #[.val (.ref a), .val (.int g), .val (.long d), .second, .val (.int z), .val (.int (if ¬ (((g >>> ((z + (1 : Int32)) &&& 31)) &&& (1 : Int32)) = (0 : Int32)) then (1 : Int32) else (0 : Int32)))] [(.long d), (.ref a)])) rfl (by rw [hml]; rfl) (Steps.refl _) (argsL := [(.long d)]) (rest := []) (lenOf own_pd1 rfl) rfl (by show 2 * 0 + _ ≤ _; exact Nat.le_of_eq rfl) (hb hby own_d2_20) (fun _ _ => ⟨rfl, e0, (by decide : 0 + 0 ≤ _), (by decide : 0 + 0 ≤ _)⟩)
  dsimp only [Pt.U, Pt.locs, Pt.cells, Pt.slots] at X3 l3 y3 z3 st3 hQ3
  subst l3 y3 z3
  obtain ⟨rfl, N3q, e3⟩ := hQ3
  have N3 := Fr.app N0 N3q
  obtain ⟨fs, hr, hrun, hended, hW, hsame⟩ := X3.leave (v := some (.int (1 : Int32))) (fun h => by rw [Bd.returns] at h; cases h)
  refine ⟨_, _, pre2 _ ?_, hrun, hended, _, _, rfl, ?_, ⟨_, rfl⟩, hW, hsame.mono (by decide) (by decide)⟩
  · show Steps p.tables e below (s₁.setTop (mkF m 16 #[.val (.ref a), .val (.int g), .val (.long d), .second, .val (.int z), .unset] [(.int (if ¬ (((g >>> ((z + (1 : Int32)) &&& 31)) &&& (1 : Int32)) = (0 : Int32)) then (1 : Int32) else (0 : Int32)))])) _
    refine XS.istore X0.here hx rfl (hb hby own_d2_16) rfl (l' := #[.val (.ref a), .val (.int g), .val (.long d), .second, .val (.int z), .val (.int (if ¬ (((g >>> ((z + (1 : Int32)) &&& 31)) &&& (1 : Int32)) = (0 : Int32)) then (1 : Int32) else (0 : Int32)))]) rfl ?_
    show Steps p.tables e below (s₁.setTop (mkF m 18 #[.val (.ref a), .val (.int g), .val (.long d), .second, .val (.int z), .val (.int (if ¬ (((g >>> ((z + (1 : Int32)) &&& 31)) &&& (1 : Int32)) = (0 : Int32)) then (1 : Int32) else (0 : Int32)))] [])) _
    refine XS.aloadN X0.here hx rfl (hb hby own_d2_18) rfl rfl ?_
    show Steps p.tables e below (s₁.setTop (mkF m 19 #[.val (.ref a), .val (.int g), .val (.long d), .second, .val (.int z), .val (.int (if ¬ (((g >>> ((z + (1 : Int32)) &&& 31)) &&& (1 : Int32)) = (0 : Int32)) then (1 : Int32) else (0 : Int32)))] [(.ref a)])) _
    refine XS.lloadN X0.here hx rfl (hb hby own_d2_19) rfl ?_
    show Steps p.tables e below (s₁.setTop (mkF m 20 #[.val (.ref a), .val (.int g), .val (.long d), .second, .val (.int z), .val (.int (if ¬ (((g >>> ((z + (1 : Int32)) &&& 31)) &&& (1 : Int32)) = (0 : Int32)) then (1 : Int32) else (0 : Int32)))] [(.long d), (.ref a)])) _
    refine st3.trans ?_
    show Steps p.tables e below (T3.setTop (mkF m 23 #[.val (.ref a), .val (.int g), .val (.long d), .second, .val (.int z), .val (.int (if ¬ (((g >>> ((z + (1 : Int32)) &&& 31)) &&& (1 : Int32)) = (0 : Int32)) then (1 : Int32) else (0 : Int32)))] [(.int (if ¬ (d = (0 : Int64)) then (1 : Int32) else (0 : Int32)))])) _
    refine XS.iload X3.here hx rfl (hb hby own_d2_23) rfl ?_
    show Steps p.tables e below (T3.setTop (mkF m 25 #[.val (.ref a), .val (.int g), .val (.long d), .second, .val (.int z), .val (.int (if ¬ (((g >>> ((z + (1 : Int32)) &&& 31)) &&& (1 : Int32)) = (0 : Int32)) then (1 : Int32) else (0 : Int32)))] [(.int (if ¬ (((g >>> ((z + (1 : Int32)) &&& 31)) &&& (1 : Int32)) = (0 : Int32)) then (1 : Int32) else (0 : Int32))), (.int (if ¬ (d = (0 : Int64)) then (1 : Int32) else (0 : Int32)))])) _
    refine XS.icmpNo X3.here hx rfl (hb hby own_d2_25) rfl (teq (by by_cases hp : ¬ (d = (0 : Int64)) <;> simp [hp, hq] : (if ¬ (d = (0 : Int64)) then (1 : Int32) else (0 : Int32)) = (if ¬ (((g >>> ((z + (1 : Int32)) &&& 31)) &&& (1 : Int32)) = (0 : Int32)) then (1 : Int32) else (0 : Int32)))).2 ?_
    show Steps p.tables e below (T3.setTop (mkF m 28 #[.val (.ref a), .val (.int g), .val (.long d), .second, .val (.int z), .val (.int (if ¬ (((g >>> ((z + (1 : Int32)) &&& 31)) &&& (1 : Int32)) = (0 : Int32)) then (1 : Int32) else (0 : Int32)))] [])) _
    refine XS.iconst X3.here hx rfl (hb hby own_d2_28) ?_
    show Steps p.tables e below (T3.setTop (mkF m 29 #[.val (.ref a), .val (.int g), .val (.long d), .second, .val (.int z), .val (.int (if ¬ (((g >>> ((z + (1 : Int32)) &&& 31)) &&& (1 : Int32)) = (0 : Int32)) then (1 : Int32) else (0 : Int32)))] [(.int (1 : Int32))])) _
    refine XS.goto X3.here hx rfl (pc0 := 29) (pc' := 33) rfl (hb hby own_d2_29) (by decide) (by decide) ?_
    show Steps p.tables e below (T3.setTop (mkF m 33 #[.val (.ref a), .val (.int g), .val (.long d), .second, .val (.int z), .val (.int (if ¬ (((g >>> ((z + (1 : Int32)) &&& 31)) &&& (1 : Int32)) = (0 : Int32)) then (1 : Int32) else (0 : Int32)))] [(.int (1 : Int32))])) _
    exact retN X3 hx (t := .boolean) Bd.returns (by simp) (hb hby own_d2_33) hr
  · show own_Q_own_agrees5 Z a g d z h0 n0 _ T3.heap _
    rw [e3]
    exact ⟨rfl, N3, rfl⟩
theorem own_pd2 : parseMethodDescriptor "(J)I" = some ⟨[.long], some .int⟩ := by decide +kernel
theorem own_pd3 : parseMethodDescriptor "(Lcom/example/antigonish/antigonish/Relation;IJI)Z" = some ⟨[(.object "com/example/antigonish/antigonish/Relation"), .int, .long, .int], some .boolean⟩ := by decide +kernel
theorem own_ef0 (m : MethodId) (x0 : Int64) : entryFrame m #[(.long x0)] maxLocals = mkF m 0 #[.val (.long x0), .second, .unset] [] := by first | (simp [entryFrame, mkF, argsToLocals, Value.category, maxLocals]; done) | rfl
def own_Q_own_law (Z : State) (d : Int64) (wLESS : Addr) (wAT_MOST : Addr) (wAT_LEAST : Addr) (wGREATER : Addr) (wEQUAL : Addr) (wUNEQUAL : Addr) (h0 : Heap) (n0 : Nat) (v : Option Value) (h : Heap) (L : List Loc) : Prop := v = some (.int 1) ∧ Fr n0 L
set_option maxRecDepth 65536 in
set_option maxHeartbeats 40000000 in
theorem own_law (l : Launch) (Z : State) (a0 : Array Value) (hw : ∀ d ∈ tables_1, d.before a0 Z = true) (ws : List Jvm.Cond) (d : Int64) (wLESS : Addr) (wAT_MOST : Addr) (wAT_LEAST : Addr) (wGREATER : Addr) (wEQUAL : Addr) (wUNEQUAL : Addr) (h0 : Heap) (n0 : Nat) (Z0 : n0 ≤ h0.size) (S_LESS : Sta Z h0 "com/example/antigonish/antigonish/Relation" "LESS" "Lcom/example/antigonish/antigonish/Relation;" (.ref wLESS)) (S_AT_MOST : Sta Z h0 "com/example/antigonish/antigonish/Relation" "AT_MOST" "Lcom/example/antigonish/antigonish/Relation;" (.ref wAT_MOST)) (S_AT_LEAST : Sta Z h0 "com/example/antigonish/antigonish/Relation" "AT_LEAST" "Lcom/example/antigonish/antigonish/Relation;" (.ref wAT_LEAST)) (S_GREATER : Sta Z h0 "com/example/antigonish/antigonish/Relation" "GREATER" "Lcom/example/antigonish/antigonish/Relation;" (.ref wGREATER)) (S_EQUAL : Sta Z h0 "com/example/antigonish/antigonish/Relation" "EQUAL" "Lcom/example/antigonish/antigonish/Relation;" (.ref wEQUAL)) (S_UNEQUAL : Sta Z h0 "com/example/antigonish/antigonish/Relation" "UNEQUAL" "Lcom/example/antigonish/antigonish/Relation;" (.ref wUNEQUAL)) (E_wLESS : Exa Z h0 wLESS "com/example/antigonish/antigonish/Relation") (E_wAT_MOST : Exa Z h0 wAT_MOST "com/example/antigonish/antigonish/Relation") (E_wAT_LEAST : Exa Z h0 wAT_LEAST "com/example/antigonish/antigonish/Relation") (E_wGREATER : Exa Z h0 wGREATER "com/example/antigonish/antigonish/Relation") (E_wEQUAL : Exa Z h0 wEQUAL "com/example/antigonish/antigonish/Relation") (E_wUNEQUAL : Exa Z h0 wUNEQUAL "com/example/antigonish/antigonish/Relation") (F_wLESS : Fld Z h0 wLESS "java/lang/Enum" "ordinal" "I" (.int (0))) (F_wAT_MOST : Fld Z h0 wAT_MOST "java/lang/Enum" "ordinal" "I" (.int (1))) (F_wAT_LEAST : Fld Z h0 wAT_LEAST "java/lang/Enum" "ordinal" "I" (.int (2))) (F_wGREATER : Fld Z h0 wGREATER "java/lang/Enum" "ordinal" "I" (.int (3))) (F_wEQUAL : Fld Z h0 wEQUAL "java/lang/Enum" "ordinal" "I" (.int (4))) (F_wUNEQUAL : Fld Z h0 wUNEQUAL "java/lang/Enum" "ordinal" "I" (.int (5))) :
    MetFree l x (head1 (Jvm.Cond.code x code maxLocals ret :: ws) room_1) (fun as_ U => as_ = #[(.long d)] ∧ Z.Warmed39 U.vm ∧ U.heap = h0) (fun _ _ _ _ _ => True) (fun _ U o U' => ∃ v L, o = .returned v ∧ own_Q_own_law Z d wLESS wAT_MOST wAT_LEAST wGREATER wEQUAL wUNEQUAL h0 n0 v U'.heap L ∧ FrameEnd U o U' L room_1.cells room_1.slots) := by
  refine MetFree.of_bodySF (plainFor_of_name own_pn0) hisR ?_
  intro p e s m args below meth c s₁ Bd hml0 hP hK
  obtain ⟨rfl, hZ, hh⟩ := hP
  have hx := Bd.exec
  have hby := Bd.bytes
  have hml : c.maxLocals = 3 := hml0
  have hown : s.vm.findClass "com/example/antigonish/antigonish/RelationHoldsPinLaw" = some m.cls := findClass_of_methodNamed Bd.named
  have hnm := (name_of_methodNamed Bd.named Bd.method).1
  have X0 : Stand p l e room_1 s m #[(.long d)] below meth c s₁ [] 0 0 := Stand.of_body Bd
  have e0 : s₁.heap = h0 := by rw [← hh, Bd.state]; rfl
  have N0 := Fr.nil n0
  have pre0 : ∀ t, Steps p.tables e below (s₁.setTop (mkF m 0 #[.val (.long d), .second, .unset] [])) t → Steps p.tables e below (s₁.setTop (entryFrame m #[(.long d)] maxLocals)) t := fun t k => castTop (own_ef0 m d) k
  by_cases hc1 : d < (0 : Int64)
  · skip
    have hg : ¬ (0 : Int64) < d := by have := hc1; rw [Int64.lt_iff_toInt_lt] at *; omega
    have he : ¬ d = (0 : Int64) := by rintro rfl; revert hc1; decide
    obtain ⟨_, _, ⟨T2, L2, k2, n2⟩, -, X2, ⟨Lc2, hQ2, l2, y2, z2⟩, st2⟩ := Jvm.LawKit.callS X0 hx (y := (⟨"com/example/antigonish/antigonish/RelationHoldsPinLaw", "sign", "(J)I"⟩ : MethodName)) hown (mvT hZ (hw _ (List.mem_of_getElem? (i := 0) rfl))) (mvT hZ (hw _ (List.mem_of_getElem? (i := 1) rfl))) (mvT hZ (hw _ (List.mem_of_getElem? (i := 2) rfl))) (mvT hZ (hw _ (List.mem_of_getElem? (i := 3) rfl))) (by decide) (backOf (W := 0) (own_sign l Z a0 hw [] d  h0 n0 Z0 ) hZ (hw _ (List.mem_of_getElem? (i := 3) rfl)) (hw _ (List.mem_of_getElem? (i := 2) rfl)) (by decide) (by decide)) (g := (mkF m 1 #[.val (.long d), .second, .unset] [(.long d)])) rfl (by rw [hml]; rfl) (argsL := [(.long d)]) (rest := []) (lenOf own_pd2 rfl) rfl (by show 2 * 0 + _ ≤ _; exact Nat.le_of_eq rfl) (hb hby at_1) (fun _ _ => ⟨rfl, e0, (by decide : 0 + 0 ≤ _), (by decide : 0 + 0 ≤ _)⟩)
    dsimp only [Pt.U, Pt.locs, Pt.cells, Pt.slots] at X2 l2 y2 z2 st2 hQ2
    subst l2 y2 z2
    obtain ⟨hv2, N2q, e2⟩ := hQ2
    simp [hc1] at hv2
    subst hv2
    have N2 := Fr.app N0 N2q
    obtain ⟨T3, X3, e3, st3⟩ := getS2 X2 hx hZ hown (host := "") (Or.inl (hw _ (List.mem_of_getElem? (i := 4) rfl))) Via.refl e2 S_LESS (g := (mkF m 5 #[.val (.long d), .second, .val (.int (-1 : Int32))] [])) rfl (hb hby at_5)
    obtain ⟨_, _, ⟨T4, L4, k4, n4⟩, -, X4, ⟨Lc4, hQ4, l4, y4, z4⟩, st4⟩ := Jvm.LawKit.callS X3 hx (y := (⟨"com/example/antigonish/antigonish/RelationHoldsPinLaw", "agrees", "(Lcom/example/antigonish/antigonish/Relation;IJI)Z"⟩ : MethodName)) hown (mvT hZ (hw _ (List.mem_of_getElem? (i := 7) rfl))) (mvT hZ (hw _ (List.mem_of_getElem? (i := 8) rfl))) (mvT hZ (hw _ (List.mem_of_getElem? (i := 2) rfl))) (mvT hZ (hw _ (List.mem_of_getElem? (i := 9) rfl))) (by decide) (backOf (W := 0) (own_agrees0 l Z a0 hw [] wLESS (1 : Int32) d (-1 : Int32)  h0 n0 Z0 F_wLESS E_wLESS (by simp only [hc1, hg, he]; decide)) hZ (hw _ (List.mem_of_getElem? (i := 9) rfl)) (hw _ (List.mem_of_getElem? (i := 2) rfl)) (by decide) (by decide)) (g := (mkF m 11 #[.val (.long d), .second, .val (.int (-1 : Int32))] [(.int (-1 : Int32)), (.long d), (.int (1 : Int32)), (.ref wLESS)])) rfl (by rw [hml]; rfl) (argsL := [(.ref wLESS), (.int (1 : Int32)), (.long d), (.int (-1 : Int32))]) (rest := []) (lenOf own_pd3 rfl) rfl (by show 2 * 0 + _ ≤ _; exact Nat.le_of_eq rfl) (hb hby at_11) (fun _ _ => ⟨rfl, e3, (by decide : 0 + 0 ≤ _), (by decide : 0 + 0 ≤ _)⟩)
    dsimp only [Pt.U, Pt.locs, Pt.cells, Pt.slots] at X4 l4 y4 z4 st4 hQ4
    subst l4 y4 z4
    obtain ⟨rfl, N4q, e4⟩ := hQ4
    have N4 := Fr.app N2 N4q
    obtain ⟨T5, X5, e5, st5⟩ := getS2 X4 hx hZ hown (host := "") (Or.inl (hw _ (List.mem_of_getElem? (i := 24) rfl))) Via.refl e4 S_AT_MOST (g := (mkF m 17 #[.val (.long d), .second, .val (.int (-1 : Int32))] [])) rfl (hb hby at_17)
    obtain ⟨_, _, ⟨T6, L6, k6, n6⟩, -, X6, ⟨Lc6, hQ6, l6, y6, z6⟩, st6⟩ := Jvm.LawKit.callS X5 hx (y := (⟨"com/example/antigonish/antigonish/RelationHoldsPinLaw", "agrees", "(Lcom/example/antigonish/antigonish/Relation;IJI)Z"⟩ : MethodName)) hown (mvT hZ (hw _ (List.mem_of_getElem? (i := 7) rfl))) (mvT hZ (hw _ (List.mem_of_getElem? (i := 8) rfl))) (mvT hZ (hw _ (List.mem_of_getElem? (i := 2) rfl))) (mvT hZ (hw _ (List.mem_of_getElem? (i := 9) rfl))) (by decide) (backOf (W := 0) (own_agrees1 l Z a0 hw [] wAT_MOST (3 : Int32) d (-1 : Int32)  h0 n0 Z0 F_wAT_MOST E_wAT_MOST (by simp only [hc1, hg, he]; decide)) hZ (hw _ (List.mem_of_getElem? (i := 9) rfl)) (hw _ (List.mem_of_getElem? (i := 2) rfl)) (by decide) (by decide)) (g := (mkF m 23 #[.val (.long d), .second, .val (.int (-1 : Int32))] [(.int (-1 : Int32)), (.long d), (.int (3 : Int32)), (.ref wAT_MOST)])) rfl (by rw [hml]; rfl) (argsL := [(.ref wAT_MOST), (.int (3 : Int32)), (.long d), (.int (-1 : Int32))]) (rest := []) (lenOf own_pd3 rfl) rfl (by show 2 * 0 + _ ≤ _; exact Nat.le_of_eq rfl) (hb hby at_23) (fun _ _ => ⟨rfl, e5, (by decide : 0 + 0 ≤ _), (by decide : 0 + 0 ≤ _)⟩)
    dsimp only [Pt.U, Pt.locs, Pt.cells, Pt.slots] at X6 l6 y6 z6 st6 hQ6
    subst l6 y6 z6
    obtain ⟨rfl, N6q, e6⟩ := hQ6
    have N6 := Fr.app N4 N6q
    obtain ⟨T7, X7, e7, st7⟩ := getS2 X6 hx hZ hown (host := "") (Or.inl (hw _ (List.mem_of_getElem? (i := 26) rfl))) Via.refl e6 S_AT_LEAST (g := (mkF m 29 #[.val (.long d), .second, .val (.int (-1 : Int32))] [])) rfl (hb hby at_29)
    obtain ⟨_, _, ⟨T8, L8, k8, n8⟩, -, X8, ⟨Lc8, hQ8, l8, y8, z8⟩, st8⟩ := Jvm.LawKit.callS X7 hx (y := (⟨"com/example/antigonish/antigonish/RelationHoldsPinLaw", "agrees", "(Lcom/example/antigonish/antigonish/Relation;IJI)Z"⟩ : MethodName)) hown (mvT hZ (hw _ (List.mem_of_getElem? (i := 7) rfl))) (mvT hZ (hw _ (List.mem_of_getElem? (i := 8) rfl))) (mvT hZ (hw _ (List.mem_of_getElem? (i := 2) rfl))) (mvT hZ (hw _ (List.mem_of_getElem? (i := 9) rfl))) (by decide) (backOf (W := 0) (own_agrees2 l Z a0 hw [] wAT_LEAST (6 : Int32) d (-1 : Int32)  h0 n0 Z0 F_wAT_LEAST E_wAT_LEAST (by simp only [hc1, hg, he]; decide)) hZ (hw _ (List.mem_of_getElem? (i := 9) rfl)) (hw _ (List.mem_of_getElem? (i := 2) rfl)) (by decide) (by decide)) (g := (mkF m 36 #[.val (.long d), .second, .val (.int (-1 : Int32))] [(.int (-1 : Int32)), (.long d), (.int (6 : Int32)), (.ref wAT_LEAST)])) rfl (by rw [hml]; rfl) (argsL := [(.ref wAT_LEAST), (.int (6 : Int32)), (.long d), (.int (-1 : Int32))]) (rest := []) (lenOf own_pd3 rfl) rfl (by show 2 * 0 + _ ≤ _; exact Nat.le_of_eq rfl) (hb hby at_36) (fun _ _ => ⟨rfl, e7, (by decide : 0 + 0 ≤ _), (by decide : 0 + 0 ≤ _)⟩)
    dsimp only [Pt.U, Pt.locs, Pt.cells, Pt.slots] at X8 l8 y8 z8 st8 hQ8
    subst l8 y8 z8
    obtain ⟨rfl, N8q, e8⟩ := hQ8
    have N8 := Fr.app N6 N8q
    obtain ⟨T9, X9, e9, st9⟩ := getS2 X8 hx hZ hown (host := "") (Or.inl (hw _ (List.mem_of_getElem? (i := 28) rfl))) Via.refl e8 S_GREATER (g := (mkF m 42 #[.val (.long d), .second, .val (.int (-1 : Int32))] [])) rfl (hb hby at_42)
    obtain ⟨_, _, ⟨T10, L10, k10, n10⟩, -, X10, ⟨Lc10, hQ10, l10, y10, z10⟩, st10⟩ := Jvm.LawKit.callS X9 hx (y := (⟨"com/example/antigonish/antigonish/RelationHoldsPinLaw", "agrees", "(Lcom/example/antigonish/antigonish/Relation;IJI)Z"⟩ : MethodName)) hown (mvT hZ (hw _ (List.mem_of_getElem? (i := 7) rfl))) (mvT hZ (hw _ (List.mem_of_getElem? (i := 8) rfl))) (mvT hZ (hw _ (List.mem_of_getElem? (i := 2) rfl))) (mvT hZ (hw _ (List.mem_of_getElem? (i := 9) rfl))) (by decide) (backOf (W := 0) (own_agrees3 l Z a0 hw [] wGREATER (4 : Int32) d (-1 : Int32)  h0 n0 Z0 F_wGREATER E_wGREATER (by simp only [hc1, hg, he]; decide)) hZ (hw _ (List.mem_of_getElem? (i := 9) rfl)) (hw _ (List.mem_of_getElem? (i := 2) rfl)) (by decide) (by decide)) (g := (mkF m 48 #[.val (.long d), .second, .val (.int (-1 : Int32))] [(.int (-1 : Int32)), (.long d), (.int (4 : Int32)), (.ref wGREATER)])) rfl (by rw [hml]; rfl) (argsL := [(.ref wGREATER), (.int (4 : Int32)), (.long d), (.int (-1 : Int32))]) (rest := []) (lenOf own_pd3 rfl) rfl (by show 2 * 0 + _ ≤ _; exact Nat.le_of_eq rfl) (hb hby at_48) (fun _ _ => ⟨rfl, e9, (by decide : 0 + 0 ≤ _), (by decide : 0 + 0 ≤ _)⟩)
    dsimp only [Pt.U, Pt.locs, Pt.cells, Pt.slots] at X10 l10 y10 z10 st10 hQ10
    subst l10 y10 z10
    obtain ⟨rfl, N10q, e10⟩ := hQ10
    have N10 := Fr.app N8 N10q
    obtain ⟨T11, X11, e11, st11⟩ := getS2 X10 hx hZ hown (host := "") (Or.inl (hw _ (List.mem_of_getElem? (i := 30) rfl))) Via.refl e10 S_EQUAL (g := (mkF m 54 #[.val (.long d), .second, .val (.int (-1 : Int32))] [])) rfl (hb hby at_54)
    obtain ⟨_, _, ⟨T12, L12, k12, n12⟩, -, X12, ⟨Lc12, hQ12, l12, y12, z12⟩, st12⟩ := Jvm.LawKit.callS X11 hx (y := (⟨"com/example/antigonish/antigonish/RelationHoldsPinLaw", "agrees", "(Lcom/example/antigonish/antigonish/Relation;IJI)Z"⟩ : MethodName)) hown (mvT hZ (hw _ (List.mem_of_getElem? (i := 7) rfl))) (mvT hZ (hw _ (List.mem_of_getElem? (i := 8) rfl))) (mvT hZ (hw _ (List.mem_of_getElem? (i := 2) rfl))) (mvT hZ (hw _ (List.mem_of_getElem? (i := 9) rfl))) (by decide) (backOf (W := 0) (own_agrees4 l Z a0 hw [] wEQUAL (2 : Int32) d (-1 : Int32)  h0 n0 Z0 F_wEQUAL E_wEQUAL (by simp only [hc1, hg, he]; decide)) hZ (hw _ (List.mem_of_getElem? (i := 9) rfl)) (hw _ (List.mem_of_getElem? (i := 2) rfl)) (by decide) (by decide)) (g := (mkF m 60 #[.val (.long d), .second, .val (.int (-1 : Int32))] [(.int (-1 : Int32)), (.long d), (.int (2 : Int32)), (.ref wEQUAL)])) rfl (by rw [hml]; rfl) (argsL := [(.ref wEQUAL), (.int (2 : Int32)), (.long d), (.int (-1 : Int32))]) (rest := []) (lenOf own_pd3 rfl) rfl (by show 2 * 0 + _ ≤ _; exact Nat.le_of_eq rfl) (hb hby at_60) (fun _ _ => ⟨rfl, e11, (by decide : 0 + 0 ≤ _), (by decide : 0 + 0 ≤ _)⟩)
    dsimp only [Pt.U, Pt.locs, Pt.cells, Pt.slots] at X12 l12 y12 z12 st12 hQ12
    subst l12 y12 z12
    obtain ⟨rfl, N12q, e12⟩ := hQ12
    have N12 := Fr.app N10 N12q
    obtain ⟨T13, X13, e13, st13⟩ := getS2 X12 hx hZ hown (host := "") (Or.inl (hw _ (List.mem_of_getElem? (i := 32) rfl))) Via.refl e12 S_UNEQUAL (g := (mkF m 66 #[.val (.long d), .second, .val (.int (-1 : Int32))] [])) rfl (hb hby at_66)
    obtain ⟨_, _, ⟨T14, L14, k14, n14⟩, -, X14, ⟨Lc14, hQ14, l14, y14, z14⟩, st14⟩ := Jvm.LawKit.callS X13 hx (y := (⟨"com/example/antigonish/antigonish/RelationHoldsPinLaw", "agrees", "(Lcom/example/antigonish/antigonish/Relation;IJI)Z"⟩ : MethodName)) hown (mvT hZ (hw _ (List.mem_of_getElem? (i := 7) rfl))) (mvT hZ (hw _ (List.mem_of_getElem? (i := 8) rfl))) (mvT hZ (hw _ (List.mem_of_getElem? (i := 2) rfl))) (mvT hZ (hw _ (List.mem_of_getElem? (i := 9) rfl))) (by decide) (backOf (W := 0) (own_agrees5 l Z a0 hw [] wUNEQUAL (5 : Int32) d (-1 : Int32)  h0 n0 Z0 F_wUNEQUAL E_wUNEQUAL (by simp only [hc1, hg, he]; decide)) hZ (hw _ (List.mem_of_getElem? (i := 9) rfl)) (hw _ (List.mem_of_getElem? (i := 2) rfl)) (by decide) (by decide)) (g := (mkF m 72 #[.val (.long d), .second, .val (.int (-1 : Int32))] [(.int (-1 : Int32)), (.long d), (.int (5 : Int32)), (.ref wUNEQUAL)])) rfl (by rw [hml]; rfl) (argsL := [(.ref wUNEQUAL), (.int (5 : Int32)), (.long d), (.int (-1 : Int32))]) (rest := []) (lenOf own_pd3 rfl) rfl (by show 2 * 0 + _ ≤ _; exact Nat.le_of_eq rfl) (hb hby at_72) (fun _ _ => ⟨rfl, e13, (by decide : 0 + 0 ≤ _), (by decide : 0 + 0 ≤ _)⟩)
    dsimp only [Pt.U, Pt.locs, Pt.cells, Pt.slots] at X14 l14 y14 z14 st14 hQ14
    subst l14 y14 z14
    obtain ⟨rfl, N14q, e14⟩ := hQ14
    have N14 := Fr.app N12 N14q
    obtain ⟨fs, hr, hrun, hended, hW, hsame⟩ := X14.leave (v := some (.int (1 : Int32))) (fun h => by rw [Bd.returns] at h; cases h)
    refine ⟨_, _, pre0 _ ?_, hrun, hended, _, _, rfl, ?_, ⟨_, rfl⟩, hW, hsame.mono (by decide) (by decide)⟩
    · show Steps p.tables e below (s₁.setTop (mkF m 0 #[.val (.long d), .second, .unset] [])) _
      refine XS.lloadN X0.here hx rfl (hb hby at_0) rfl ?_
      show Steps p.tables e below (s₁.setTop (mkF m 1 #[.val (.long d), .second, .unset] [(.long d)])) _
      refine st2 _ ?_
      show Steps p.tables e below (T2.setTop (mkF m 4 #[.val (.long d), .second, .unset] [(.int (-1 : Int32))])) _
      refine XS.istoreN X2.here hx rfl (hb hby at_4) rfl (l' := #[.val (.long d), .second, .val (.int (-1 : Int32))]) rfl ?_
      show Steps p.tables e below (T2.setTop (mkF m 5 #[.val (.long d), .second, .val (.int (-1 : Int32))] [])) _
      refine st3 _ ?_
      show Steps p.tables e below (T3.setTop (mkF m 8 #[.val (.long d), .second, .val (.int (-1 : Int32))] [(.ref wLESS)])) _
      refine XS.iconst X3.here hx rfl (hb hby at_8) ?_
      show Steps p.tables e below (T3.setTop (mkF m 9 #[.val (.long d), .second, .val (.int (-1 : Int32))] [(.int (1 : Int32)), (.ref wLESS)])) _
      refine XS.lloadN X3.here hx rfl (hb hby at_9) rfl ?_
      show Steps p.tables e below (T3.setTop (mkF m 10 #[.val (.long d), .second, .val (.int (-1 : Int32))] [(.long d), (.int (1 : Int32)), (.ref wLESS)])) _
      refine XS.iloadN X3.here hx rfl (hb hby at_10) rfl ?_
      show Steps p.tables e below (T3.setTop (mkF m 11 #[.val (.long d), .second, .val (.int (-1 : Int32))] [(.int (-1 : Int32)), (.long d), (.int (1 : Int32)), (.ref wLESS)])) _
      refine st4 _ ?_
      show Steps p.tables e below (T4.setTop (mkF m 14 #[.val (.long d), .second, .val (.int (-1 : Int32))] [(.int (1 : Int32))])) _
      refine XS.ifNo X4.here hx rfl (hb hby at_14) rfl ((if0 _ _).trans (feq (by decide : ¬ ((1 : Int32) = (0 : Int32)))).1) ?_
      show Steps p.tables e below (T4.setTop (mkF m 17 #[.val (.long d), .second, .val (.int (-1 : Int32))] [])) _
      refine st5 _ ?_
      show Steps p.tables e below (T5.setTop (mkF m 20 #[.val (.long d), .second, .val (.int (-1 : Int32))] [(.ref wAT_MOST)])) _
      refine XS.iconst X5.here hx rfl (hb hby at_20) ?_
      show Steps p.tables e below (T5.setTop (mkF m 21 #[.val (.long d), .second, .val (.int (-1 : Int32))] [(.int (3 : Int32)), (.ref wAT_MOST)])) _
      refine XS.lloadN X5.here hx rfl (hb hby at_21) rfl ?_
      show Steps p.tables e below (T5.setTop (mkF m 22 #[.val (.long d), .second, .val (.int (-1 : Int32))] [(.long d), (.int (3 : Int32)), (.ref wAT_MOST)])) _
      refine XS.iloadN X5.here hx rfl (hb hby at_22) rfl ?_
      show Steps p.tables e below (T5.setTop (mkF m 23 #[.val (.long d), .second, .val (.int (-1 : Int32))] [(.int (-1 : Int32)), (.long d), (.int (3 : Int32)), (.ref wAT_MOST)])) _
      refine st6 _ ?_
      show Steps p.tables e below (T6.setTop (mkF m 26 #[.val (.long d), .second, .val (.int (-1 : Int32))] [(.int (1 : Int32))])) _
      refine XS.ifNo X6.here hx rfl (hb hby at_26) rfl ((if0 _ _).trans (feq (by decide : ¬ ((1 : Int32) = (0 : Int32)))).1) ?_
      show Steps p.tables e below (T6.setTop (mkF m 29 #[.val (.long d), .second, .val (.int (-1 : Int32))] [])) _
      refine st7 _ ?_
      show Steps p.tables e below (T7.setTop (mkF m 32 #[.val (.long d), .second, .val (.int (-1 : Int32))] [(.ref wAT_LEAST)])) _
      refine XS.bipush X7.here hx rfl (hb hby at_32) ?_
      show Steps p.tables e below (T7.setTop (mkF m 34 #[.val (.long d), .second, .val (.int (-1 : Int32))] [(.int (6 : Int32)), (.ref wAT_LEAST)])) _
      refine XS.lloadN X7.here hx rfl (hb hby at_34) rfl ?_
      show Steps p.tables e below (T7.setTop (mkF m 35 #[.val (.long d), .second, .val (.int (-1 : Int32))] [(.long d), (.int (6 : Int32)), (.ref wAT_LEAST)])) _
      refine XS.iloadN X7.here hx rfl (hb hby at_35) rfl ?_
      show Steps p.tables e below (T7.setTop (mkF m 36 #[.val (.long d), .second, .val (.int (-1 : Int32))] [(.int (-1 : Int32)), (.long d), (.int (6 : Int32)), (.ref wAT_LEAST)])) _
      refine st8 _ ?_
      show Steps p.tables e below (T8.setTop (mkF m 39 #[.val (.long d), .second, .val (.int (-1 : Int32))] [(.int (1 : Int32))])) _
      refine XS.ifNo X8.here hx rfl (hb hby at_39) rfl ((if0 _ _).trans (feq (by decide : ¬ ((1 : Int32) = (0 : Int32)))).1) ?_
      show Steps p.tables e below (T8.setTop (mkF m 42 #[.val (.long d), .second, .val (.int (-1 : Int32))] [])) _
      refine st9 _ ?_
      show Steps p.tables e below (T9.setTop (mkF m 45 #[.val (.long d), .second, .val (.int (-1 : Int32))] [(.ref wGREATER)])) _
      refine XS.iconst X9.here hx rfl (hb hby at_45) ?_
      show Steps p.tables e below (T9.setTop (mkF m 46 #[.val (.long d), .second, .val (.int (-1 : Int32))] [(.int (4 : Int32)), (.ref wGREATER)])) _
      refine XS.lloadN X9.here hx rfl (hb hby at_46) rfl ?_
      show Steps p.tables e below (T9.setTop (mkF m 47 #[.val (.long d), .second, .val (.int (-1 : Int32))] [(.long d), (.int (4 : Int32)), (.ref wGREATER)])) _
      refine XS.iloadN X9.here hx rfl (hb hby at_47) rfl ?_
      show Steps p.tables e below (T9.setTop (mkF m 48 #[.val (.long d), .second, .val (.int (-1 : Int32))] [(.int (-1 : Int32)), (.long d), (.int (4 : Int32)), (.ref wGREATER)])) _
      refine st10 _ ?_
      show Steps p.tables e below (T10.setTop (mkF m 51 #[.val (.long d), .second, .val (.int (-1 : Int32))] [(.int (1 : Int32))])) _
      refine XS.ifNo X10.here hx rfl (hb hby at_51) rfl ((if0 _ _).trans (feq (by decide : ¬ ((1 : Int32) = (0 : Int32)))).1) ?_
      show Steps p.tables e below (T10.setTop (mkF m 54 #[.val (.long d), .second, .val (.int (-1 : Int32))] [])) _
      refine st11 _ ?_
      show Steps p.tables e below (T11.setTop (mkF m 57 #[.val (.long d), .second, .val (.int (-1 : Int32))] [(.ref wEQUAL)])) _
      refine XS.iconst X11.here hx rfl (hb hby at_57) ?_
      show Steps p.tables e below (T11.setTop (mkF m 58 #[.val (.long d), .second, .val (.int (-1 : Int32))] [(.int (2 : Int32)), (.ref wEQUAL)])) _
      refine XS.lloadN X11.here hx rfl (hb hby at_58) rfl ?_
      show Steps p.tables e below (T11.setTop (mkF m 59 #[.val (.long d), .second, .val (.int (-1 : Int32))] [(.long d), (.int (2 : Int32)), (.ref wEQUAL)])) _
      refine XS.iloadN X11.here hx rfl (hb hby at_59) rfl ?_
      show Steps p.tables e below (T11.setTop (mkF m 60 #[.val (.long d), .second, .val (.int (-1 : Int32))] [(.int (-1 : Int32)), (.long d), (.int (2 : Int32)), (.ref wEQUAL)])) _
      refine st12 _ ?_
      show Steps p.tables e below (T12.setTop (mkF m 63 #[.val (.long d), .second, .val (.int (-1 : Int32))] [(.int (1 : Int32))])) _
      refine XS.ifNo X12.here hx rfl (hb hby at_63) rfl ((if0 _ _).trans (feq (by decide : ¬ ((1 : Int32) = (0 : Int32)))).1) ?_
      show Steps p.tables e below (T12.setTop (mkF m 66 #[.val (.long d), .second, .val (.int (-1 : Int32))] [])) _
      refine st13 _ ?_
      show Steps p.tables e below (T13.setTop (mkF m 69 #[.val (.long d), .second, .val (.int (-1 : Int32))] [(.ref wUNEQUAL)])) _
      refine XS.iconst X13.here hx rfl (hb hby at_69) ?_
      show Steps p.tables e below (T13.setTop (mkF m 70 #[.val (.long d), .second, .val (.int (-1 : Int32))] [(.int (5 : Int32)), (.ref wUNEQUAL)])) _
      refine XS.lloadN X13.here hx rfl (hb hby at_70) rfl ?_
      show Steps p.tables e below (T13.setTop (mkF m 71 #[.val (.long d), .second, .val (.int (-1 : Int32))] [(.long d), (.int (5 : Int32)), (.ref wUNEQUAL)])) _
      refine XS.iloadN X13.here hx rfl (hb hby at_71) rfl ?_
      show Steps p.tables e below (T13.setTop (mkF m 72 #[.val (.long d), .second, .val (.int (-1 : Int32))] [(.int (-1 : Int32)), (.long d), (.int (5 : Int32)), (.ref wUNEQUAL)])) _
      refine st14 _ ?_
      show Steps p.tables e below (T14.setTop (mkF m 75 #[.val (.long d), .second, .val (.int (-1 : Int32))] [(.int (1 : Int32))])) _
      refine XS.ifNo X14.here hx rfl (hb hby at_75) rfl ((if0 _ _).trans (feq (by decide : ¬ ((1 : Int32) = (0 : Int32)))).1) ?_
      show Steps p.tables e below (T14.setTop (mkF m 78 #[.val (.long d), .second, .val (.int (-1 : Int32))] [])) _
      refine XS.iconst X14.here hx rfl (hb hby at_78) ?_
      show Steps p.tables e below (T14.setTop (mkF m 79 #[.val (.long d), .second, .val (.int (-1 : Int32))] [(.int (1 : Int32))])) _
      refine XS.goto X14.here hx rfl (pc0 := 79) (pc' := 83) rfl (hb hby at_79) (by decide) (by decide) ?_
      show Steps p.tables e below (T14.setTop (mkF m 83 #[.val (.long d), .second, .val (.int (-1 : Int32))] [(.int (1 : Int32))])) _
      exact retN X14 hx (t := .boolean) Bd.returns (by simp) (hb hby at_83) hr
    · show own_Q_own_law Z d wLESS wAT_MOST wAT_LEAST wGREATER wEQUAL wUNEQUAL h0 n0 _ T14.heap _
      rw [e14]
      exact ⟨rfl, N14⟩
  · skip
    by_cases hc15 : d = (0 : Int64)
    · skip
      have hg : ¬ (0 : Int64) < d := by rw [hc15]; decide
      obtain ⟨_, _, ⟨T16, L16, k16, n16⟩, -, X16, ⟨Lc16, hQ16, l16, y16, z16⟩, st16⟩ := Jvm.LawKit.callS X0 hx (y := (⟨"com/example/antigonish/antigonish/RelationHoldsPinLaw", "sign", "(J)I"⟩ : MethodName)) hown (mvT hZ (hw _ (List.mem_of_getElem? (i := 0) rfl))) (mvT hZ (hw _ (List.mem_of_getElem? (i := 1) rfl))) (mvT hZ (hw _ (List.mem_of_getElem? (i := 2) rfl))) (mvT hZ (hw _ (List.mem_of_getElem? (i := 3) rfl))) (by decide) (backOf (W := 0) (own_sign l Z a0 hw [] d  h0 n0 Z0 ) hZ (hw _ (List.mem_of_getElem? (i := 3) rfl)) (hw _ (List.mem_of_getElem? (i := 2) rfl)) (by decide) (by decide)) (g := (mkF m 1 #[.val (.long d), .second, .unset] [(.long d)])) rfl (by rw [hml]; rfl) (argsL := [(.long d)]) (rest := []) (lenOf own_pd2 rfl) rfl (by show 2 * 0 + _ ≤ _; exact Nat.le_of_eq rfl) (hb hby at_1) (fun _ _ => ⟨rfl, e0, (by decide : 0 + 0 ≤ _), (by decide : 0 + 0 ≤ _)⟩)
      dsimp only [Pt.U, Pt.locs, Pt.cells, Pt.slots] at X16 l16 y16 z16 st16 hQ16
      subst l16 y16 z16
      obtain ⟨hv16, N16q, e16⟩ := hQ16
      simp [hc1, hc15] at hv16
      subst hv16
      have N16 := Fr.app N0 N16q
      obtain ⟨T17, X17, e17, st17⟩ := getS2 X16 hx hZ hown (host := "") (Or.inl (hw _ (List.mem_of_getElem? (i := 4) rfl))) Via.refl e16 S_LESS (g := (mkF m 5 #[.val (.long d), .second, .val (.int (0 : Int32))] [])) rfl (hb hby at_5)
      obtain ⟨_, _, ⟨T18, L18, k18, n18⟩, -, X18, ⟨Lc18, hQ18, l18, y18, z18⟩, st18⟩ := Jvm.LawKit.callS X17 hx (y := (⟨"com/example/antigonish/antigonish/RelationHoldsPinLaw", "agrees", "(Lcom/example/antigonish/antigonish/Relation;IJI)Z"⟩ : MethodName)) hown (mvT hZ (hw _ (List.mem_of_getElem? (i := 7) rfl))) (mvT hZ (hw _ (List.mem_of_getElem? (i := 8) rfl))) (mvT hZ (hw _ (List.mem_of_getElem? (i := 2) rfl))) (mvT hZ (hw _ (List.mem_of_getElem? (i := 9) rfl))) (by decide) (backOf (W := 0) (own_agrees0 l Z a0 hw [] wLESS (1 : Int32) d (0 : Int32)  h0 n0 Z0 F_wLESS E_wLESS (by simp only [hc1, hc15, hg]; decide)) hZ (hw _ (List.mem_of_getElem? (i := 9) rfl)) (hw _ (List.mem_of_getElem? (i := 2) rfl)) (by decide) (by decide)) (g := (mkF m 11 #[.val (.long d), .second, .val (.int (0 : Int32))] [(.int (0 : Int32)), (.long d), (.int (1 : Int32)), (.ref wLESS)])) rfl (by rw [hml]; rfl) (argsL := [(.ref wLESS), (.int (1 : Int32)), (.long d), (.int (0 : Int32))]) (rest := []) (lenOf own_pd3 rfl) rfl (by show 2 * 0 + _ ≤ _; exact Nat.le_of_eq rfl) (hb hby at_11) (fun _ _ => ⟨rfl, e17, (by decide : 0 + 0 ≤ _), (by decide : 0 + 0 ≤ _)⟩)
      dsimp only [Pt.U, Pt.locs, Pt.cells, Pt.slots] at X18 l18 y18 z18 st18 hQ18
      subst l18 y18 z18
      obtain ⟨rfl, N18q, e18⟩ := hQ18
      have N18 := Fr.app N16 N18q
      obtain ⟨T19, X19, e19, st19⟩ := getS2 X18 hx hZ hown (host := "") (Or.inl (hw _ (List.mem_of_getElem? (i := 24) rfl))) Via.refl e18 S_AT_MOST (g := (mkF m 17 #[.val (.long d), .second, .val (.int (0 : Int32))] [])) rfl (hb hby at_17)
      obtain ⟨_, _, ⟨T20, L20, k20, n20⟩, -, X20, ⟨Lc20, hQ20, l20, y20, z20⟩, st20⟩ := Jvm.LawKit.callS X19 hx (y := (⟨"com/example/antigonish/antigonish/RelationHoldsPinLaw", "agrees", "(Lcom/example/antigonish/antigonish/Relation;IJI)Z"⟩ : MethodName)) hown (mvT hZ (hw _ (List.mem_of_getElem? (i := 7) rfl))) (mvT hZ (hw _ (List.mem_of_getElem? (i := 8) rfl))) (mvT hZ (hw _ (List.mem_of_getElem? (i := 2) rfl))) (mvT hZ (hw _ (List.mem_of_getElem? (i := 9) rfl))) (by decide) (backOf (W := 0) (own_agrees1 l Z a0 hw [] wAT_MOST (3 : Int32) d (0 : Int32)  h0 n0 Z0 F_wAT_MOST E_wAT_MOST (by simp only [hc1, hc15, hg]; decide)) hZ (hw _ (List.mem_of_getElem? (i := 9) rfl)) (hw _ (List.mem_of_getElem? (i := 2) rfl)) (by decide) (by decide)) (g := (mkF m 23 #[.val (.long d), .second, .val (.int (0 : Int32))] [(.int (0 : Int32)), (.long d), (.int (3 : Int32)), (.ref wAT_MOST)])) rfl (by rw [hml]; rfl) (argsL := [(.ref wAT_MOST), (.int (3 : Int32)), (.long d), (.int (0 : Int32))]) (rest := []) (lenOf own_pd3 rfl) rfl (by show 2 * 0 + _ ≤ _; exact Nat.le_of_eq rfl) (hb hby at_23) (fun _ _ => ⟨rfl, e19, (by decide : 0 + 0 ≤ _), (by decide : 0 + 0 ≤ _)⟩)
      dsimp only [Pt.U, Pt.locs, Pt.cells, Pt.slots] at X20 l20 y20 z20 st20 hQ20
      subst l20 y20 z20
      obtain ⟨rfl, N20q, e20⟩ := hQ20
      have N20 := Fr.app N18 N20q
      obtain ⟨T21, X21, e21, st21⟩ := getS2 X20 hx hZ hown (host := "") (Or.inl (hw _ (List.mem_of_getElem? (i := 26) rfl))) Via.refl e20 S_AT_LEAST (g := (mkF m 29 #[.val (.long d), .second, .val (.int (0 : Int32))] [])) rfl (hb hby at_29)
      obtain ⟨_, _, ⟨T22, L22, k22, n22⟩, -, X22, ⟨Lc22, hQ22, l22, y22, z22⟩, st22⟩ := Jvm.LawKit.callS X21 hx (y := (⟨"com/example/antigonish/antigonish/RelationHoldsPinLaw", "agrees", "(Lcom/example/antigonish/antigonish/Relation;IJI)Z"⟩ : MethodName)) hown (mvT hZ (hw _ (List.mem_of_getElem? (i := 7) rfl))) (mvT hZ (hw _ (List.mem_of_getElem? (i := 8) rfl))) (mvT hZ (hw _ (List.mem_of_getElem? (i := 2) rfl))) (mvT hZ (hw _ (List.mem_of_getElem? (i := 9) rfl))) (by decide) (backOf (W := 0) (own_agrees2 l Z a0 hw [] wAT_LEAST (6 : Int32) d (0 : Int32)  h0 n0 Z0 F_wAT_LEAST E_wAT_LEAST (by simp only [hc1, hc15, hg]; decide)) hZ (hw _ (List.mem_of_getElem? (i := 9) rfl)) (hw _ (List.mem_of_getElem? (i := 2) rfl)) (by decide) (by decide)) (g := (mkF m 36 #[.val (.long d), .second, .val (.int (0 : Int32))] [(.int (0 : Int32)), (.long d), (.int (6 : Int32)), (.ref wAT_LEAST)])) rfl (by rw [hml]; rfl) (argsL := [(.ref wAT_LEAST), (.int (6 : Int32)), (.long d), (.int (0 : Int32))]) (rest := []) (lenOf own_pd3 rfl) rfl (by show 2 * 0 + _ ≤ _; exact Nat.le_of_eq rfl) (hb hby at_36) (fun _ _ => ⟨rfl, e21, (by decide : 0 + 0 ≤ _), (by decide : 0 + 0 ≤ _)⟩)
      dsimp only [Pt.U, Pt.locs, Pt.cells, Pt.slots] at X22 l22 y22 z22 st22 hQ22
      subst l22 y22 z22
      obtain ⟨rfl, N22q, e22⟩ := hQ22
      have N22 := Fr.app N20 N22q
      obtain ⟨T23, X23, e23, st23⟩ := getS2 X22 hx hZ hown (host := "") (Or.inl (hw _ (List.mem_of_getElem? (i := 28) rfl))) Via.refl e22 S_GREATER (g := (mkF m 42 #[.val (.long d), .second, .val (.int (0 : Int32))] [])) rfl (hb hby at_42)
      obtain ⟨_, _, ⟨T24, L24, k24, n24⟩, -, X24, ⟨Lc24, hQ24, l24, y24, z24⟩, st24⟩ := Jvm.LawKit.callS X23 hx (y := (⟨"com/example/antigonish/antigonish/RelationHoldsPinLaw", "agrees", "(Lcom/example/antigonish/antigonish/Relation;IJI)Z"⟩ : MethodName)) hown (mvT hZ (hw _ (List.mem_of_getElem? (i := 7) rfl))) (mvT hZ (hw _ (List.mem_of_getElem? (i := 8) rfl))) (mvT hZ (hw _ (List.mem_of_getElem? (i := 2) rfl))) (mvT hZ (hw _ (List.mem_of_getElem? (i := 9) rfl))) (by decide) (backOf (W := 0) (own_agrees3 l Z a0 hw [] wGREATER (4 : Int32) d (0 : Int32)  h0 n0 Z0 F_wGREATER E_wGREATER (by simp only [hc1, hc15, hg]; decide)) hZ (hw _ (List.mem_of_getElem? (i := 9) rfl)) (hw _ (List.mem_of_getElem? (i := 2) rfl)) (by decide) (by decide)) (g := (mkF m 48 #[.val (.long d), .second, .val (.int (0 : Int32))] [(.int (0 : Int32)), (.long d), (.int (4 : Int32)), (.ref wGREATER)])) rfl (by rw [hml]; rfl) (argsL := [(.ref wGREATER), (.int (4 : Int32)), (.long d), (.int (0 : Int32))]) (rest := []) (lenOf own_pd3 rfl) rfl (by show 2 * 0 + _ ≤ _; exact Nat.le_of_eq rfl) (hb hby at_48) (fun _ _ => ⟨rfl, e23, (by decide : 0 + 0 ≤ _), (by decide : 0 + 0 ≤ _)⟩)
      dsimp only [Pt.U, Pt.locs, Pt.cells, Pt.slots] at X24 l24 y24 z24 st24 hQ24
      subst l24 y24 z24
      obtain ⟨rfl, N24q, e24⟩ := hQ24
      have N24 := Fr.app N22 N24q
      obtain ⟨T25, X25, e25, st25⟩ := getS2 X24 hx hZ hown (host := "") (Or.inl (hw _ (List.mem_of_getElem? (i := 30) rfl))) Via.refl e24 S_EQUAL (g := (mkF m 54 #[.val (.long d), .second, .val (.int (0 : Int32))] [])) rfl (hb hby at_54)
      obtain ⟨_, _, ⟨T26, L26, k26, n26⟩, -, X26, ⟨Lc26, hQ26, l26, y26, z26⟩, st26⟩ := Jvm.LawKit.callS X25 hx (y := (⟨"com/example/antigonish/antigonish/RelationHoldsPinLaw", "agrees", "(Lcom/example/antigonish/antigonish/Relation;IJI)Z"⟩ : MethodName)) hown (mvT hZ (hw _ (List.mem_of_getElem? (i := 7) rfl))) (mvT hZ (hw _ (List.mem_of_getElem? (i := 8) rfl))) (mvT hZ (hw _ (List.mem_of_getElem? (i := 2) rfl))) (mvT hZ (hw _ (List.mem_of_getElem? (i := 9) rfl))) (by decide) (backOf (W := 0) (own_agrees4 l Z a0 hw [] wEQUAL (2 : Int32) d (0 : Int32)  h0 n0 Z0 F_wEQUAL E_wEQUAL (by simp only [hc1, hc15, hg]; decide)) hZ (hw _ (List.mem_of_getElem? (i := 9) rfl)) (hw _ (List.mem_of_getElem? (i := 2) rfl)) (by decide) (by decide)) (g := (mkF m 60 #[.val (.long d), .second, .val (.int (0 : Int32))] [(.int (0 : Int32)), (.long d), (.int (2 : Int32)), (.ref wEQUAL)])) rfl (by rw [hml]; rfl) (argsL := [(.ref wEQUAL), (.int (2 : Int32)), (.long d), (.int (0 : Int32))]) (rest := []) (lenOf own_pd3 rfl) rfl (by show 2 * 0 + _ ≤ _; exact Nat.le_of_eq rfl) (hb hby at_60) (fun _ _ => ⟨rfl, e25, (by decide : 0 + 0 ≤ _), (by decide : 0 + 0 ≤ _)⟩)
      dsimp only [Pt.U, Pt.locs, Pt.cells, Pt.slots] at X26 l26 y26 z26 st26 hQ26
      subst l26 y26 z26
      obtain ⟨rfl, N26q, e26⟩ := hQ26
      have N26 := Fr.app N24 N26q
      obtain ⟨T27, X27, e27, st27⟩ := getS2 X26 hx hZ hown (host := "") (Or.inl (hw _ (List.mem_of_getElem? (i := 32) rfl))) Via.refl e26 S_UNEQUAL (g := (mkF m 66 #[.val (.long d), .second, .val (.int (0 : Int32))] [])) rfl (hb hby at_66)
      obtain ⟨_, _, ⟨T28, L28, k28, n28⟩, -, X28, ⟨Lc28, hQ28, l28, y28, z28⟩, st28⟩ := Jvm.LawKit.callS X27 hx (y := (⟨"com/example/antigonish/antigonish/RelationHoldsPinLaw", "agrees", "(Lcom/example/antigonish/antigonish/Relation;IJI)Z"⟩ : MethodName)) hown (mvT hZ (hw _ (List.mem_of_getElem? (i := 7) rfl))) (mvT hZ (hw _ (List.mem_of_getElem? (i := 8) rfl))) (mvT hZ (hw _ (List.mem_of_getElem? (i := 2) rfl))) (mvT hZ (hw _ (List.mem_of_getElem? (i := 9) rfl))) (by decide) (backOf (W := 0) (own_agrees5 l Z a0 hw [] wUNEQUAL (5 : Int32) d (0 : Int32)  h0 n0 Z0 F_wUNEQUAL E_wUNEQUAL (by simp only [hc1, hc15, hg]; decide)) hZ (hw _ (List.mem_of_getElem? (i := 9) rfl)) (hw _ (List.mem_of_getElem? (i := 2) rfl)) (by decide) (by decide)) (g := (mkF m 72 #[.val (.long d), .second, .val (.int (0 : Int32))] [(.int (0 : Int32)), (.long d), (.int (5 : Int32)), (.ref wUNEQUAL)])) rfl (by rw [hml]; rfl) (argsL := [(.ref wUNEQUAL), (.int (5 : Int32)), (.long d), (.int (0 : Int32))]) (rest := []) (lenOf own_pd3 rfl) rfl (by show 2 * 0 + _ ≤ _; exact Nat.le_of_eq rfl) (hb hby at_72) (fun _ _ => ⟨rfl, e27, (by decide : 0 + 0 ≤ _), (by decide : 0 + 0 ≤ _)⟩)
      dsimp only [Pt.U, Pt.locs, Pt.cells, Pt.slots] at X28 l28 y28 z28 st28 hQ28
      subst l28 y28 z28
      obtain ⟨rfl, N28q, e28⟩ := hQ28
      have N28 := Fr.app N26 N28q
      obtain ⟨fs, hr, hrun, hended, hW, hsame⟩ := X28.leave (v := some (.int (1 : Int32))) (fun h => by rw [Bd.returns] at h; cases h)
      refine ⟨_, _, pre0 _ ?_, hrun, hended, _, _, rfl, ?_, ⟨_, rfl⟩, hW, hsame.mono (by decide) (by decide)⟩
      · show Steps p.tables e below (s₁.setTop (mkF m 0 #[.val (.long d), .second, .unset] [])) _
        refine XS.lloadN X0.here hx rfl (hb hby at_0) rfl ?_
        show Steps p.tables e below (s₁.setTop (mkF m 1 #[.val (.long d), .second, .unset] [(.long d)])) _
        refine st16 _ ?_
        show Steps p.tables e below (T16.setTop (mkF m 4 #[.val (.long d), .second, .unset] [(.int (0 : Int32))])) _
        refine XS.istoreN X16.here hx rfl (hb hby at_4) rfl (l' := #[.val (.long d), .second, .val (.int (0 : Int32))]) rfl ?_
        show Steps p.tables e below (T16.setTop (mkF m 5 #[.val (.long d), .second, .val (.int (0 : Int32))] [])) _
        refine st17 _ ?_
        show Steps p.tables e below (T17.setTop (mkF m 8 #[.val (.long d), .second, .val (.int (0 : Int32))] [(.ref wLESS)])) _
        refine XS.iconst X17.here hx rfl (hb hby at_8) ?_
        show Steps p.tables e below (T17.setTop (mkF m 9 #[.val (.long d), .second, .val (.int (0 : Int32))] [(.int (1 : Int32)), (.ref wLESS)])) _
        refine XS.lloadN X17.here hx rfl (hb hby at_9) rfl ?_
        show Steps p.tables e below (T17.setTop (mkF m 10 #[.val (.long d), .second, .val (.int (0 : Int32))] [(.long d), (.int (1 : Int32)), (.ref wLESS)])) _
        refine XS.iloadN X17.here hx rfl (hb hby at_10) rfl ?_
        show Steps p.tables e below (T17.setTop (mkF m 11 #[.val (.long d), .second, .val (.int (0 : Int32))] [(.int (0 : Int32)), (.long d), (.int (1 : Int32)), (.ref wLESS)])) _
        refine st18 _ ?_
        show Steps p.tables e below (T18.setTop (mkF m 14 #[.val (.long d), .second, .val (.int (0 : Int32))] [(.int (1 : Int32))])) _
        refine XS.ifNo X18.here hx rfl (hb hby at_14) rfl ((if0 _ _).trans (feq (by decide : ¬ ((1 : Int32) = (0 : Int32)))).1) ?_
        show Steps p.tables e below (T18.setTop (mkF m 17 #[.val (.long d), .second, .val (.int (0 : Int32))] [])) _
        refine st19 _ ?_
        show Steps p.tables e below (T19.setTop (mkF m 20 #[.val (.long d), .second, .val (.int (0 : Int32))] [(.ref wAT_MOST)])) _
        refine XS.iconst X19.here hx rfl (hb hby at_20) ?_
        show Steps p.tables e below (T19.setTop (mkF m 21 #[.val (.long d), .second, .val (.int (0 : Int32))] [(.int (3 : Int32)), (.ref wAT_MOST)])) _
        refine XS.lloadN X19.here hx rfl (hb hby at_21) rfl ?_
        show Steps p.tables e below (T19.setTop (mkF m 22 #[.val (.long d), .second, .val (.int (0 : Int32))] [(.long d), (.int (3 : Int32)), (.ref wAT_MOST)])) _
        refine XS.iloadN X19.here hx rfl (hb hby at_22) rfl ?_
        show Steps p.tables e below (T19.setTop (mkF m 23 #[.val (.long d), .second, .val (.int (0 : Int32))] [(.int (0 : Int32)), (.long d), (.int (3 : Int32)), (.ref wAT_MOST)])) _
        refine st20 _ ?_
        show Steps p.tables e below (T20.setTop (mkF m 26 #[.val (.long d), .second, .val (.int (0 : Int32))] [(.int (1 : Int32))])) _
        refine XS.ifNo X20.here hx rfl (hb hby at_26) rfl ((if0 _ _).trans (feq (by decide : ¬ ((1 : Int32) = (0 : Int32)))).1) ?_
        show Steps p.tables e below (T20.setTop (mkF m 29 #[.val (.long d), .second, .val (.int (0 : Int32))] [])) _
        refine st21 _ ?_
        show Steps p.tables e below (T21.setTop (mkF m 32 #[.val (.long d), .second, .val (.int (0 : Int32))] [(.ref wAT_LEAST)])) _
        refine XS.bipush X21.here hx rfl (hb hby at_32) ?_
        show Steps p.tables e below (T21.setTop (mkF m 34 #[.val (.long d), .second, .val (.int (0 : Int32))] [(.int (6 : Int32)), (.ref wAT_LEAST)])) _
        refine XS.lloadN X21.here hx rfl (hb hby at_34) rfl ?_
        show Steps p.tables e below (T21.setTop (mkF m 35 #[.val (.long d), .second, .val (.int (0 : Int32))] [(.long d), (.int (6 : Int32)), (.ref wAT_LEAST)])) _
        refine XS.iloadN X21.here hx rfl (hb hby at_35) rfl ?_
        show Steps p.tables e below (T21.setTop (mkF m 36 #[.val (.long d), .second, .val (.int (0 : Int32))] [(.int (0 : Int32)), (.long d), (.int (6 : Int32)), (.ref wAT_LEAST)])) _
        refine st22 _ ?_
        show Steps p.tables e below (T22.setTop (mkF m 39 #[.val (.long d), .second, .val (.int (0 : Int32))] [(.int (1 : Int32))])) _
        refine XS.ifNo X22.here hx rfl (hb hby at_39) rfl ((if0 _ _).trans (feq (by decide : ¬ ((1 : Int32) = (0 : Int32)))).1) ?_
        show Steps p.tables e below (T22.setTop (mkF m 42 #[.val (.long d), .second, .val (.int (0 : Int32))] [])) _
        refine st23 _ ?_
        show Steps p.tables e below (T23.setTop (mkF m 45 #[.val (.long d), .second, .val (.int (0 : Int32))] [(.ref wGREATER)])) _
        refine XS.iconst X23.here hx rfl (hb hby at_45) ?_
        show Steps p.tables e below (T23.setTop (mkF m 46 #[.val (.long d), .second, .val (.int (0 : Int32))] [(.int (4 : Int32)), (.ref wGREATER)])) _
        refine XS.lloadN X23.here hx rfl (hb hby at_46) rfl ?_
        show Steps p.tables e below (T23.setTop (mkF m 47 #[.val (.long d), .second, .val (.int (0 : Int32))] [(.long d), (.int (4 : Int32)), (.ref wGREATER)])) _
        refine XS.iloadN X23.here hx rfl (hb hby at_47) rfl ?_
        show Steps p.tables e below (T23.setTop (mkF m 48 #[.val (.long d), .second, .val (.int (0 : Int32))] [(.int (0 : Int32)), (.long d), (.int (4 : Int32)), (.ref wGREATER)])) _
        refine st24 _ ?_
        show Steps p.tables e below (T24.setTop (mkF m 51 #[.val (.long d), .second, .val (.int (0 : Int32))] [(.int (1 : Int32))])) _
        refine XS.ifNo X24.here hx rfl (hb hby at_51) rfl ((if0 _ _).trans (feq (by decide : ¬ ((1 : Int32) = (0 : Int32)))).1) ?_
        show Steps p.tables e below (T24.setTop (mkF m 54 #[.val (.long d), .second, .val (.int (0 : Int32))] [])) _
        refine st25 _ ?_
        show Steps p.tables e below (T25.setTop (mkF m 57 #[.val (.long d), .second, .val (.int (0 : Int32))] [(.ref wEQUAL)])) _
        refine XS.iconst X25.here hx rfl (hb hby at_57) ?_
        show Steps p.tables e below (T25.setTop (mkF m 58 #[.val (.long d), .second, .val (.int (0 : Int32))] [(.int (2 : Int32)), (.ref wEQUAL)])) _
        refine XS.lloadN X25.here hx rfl (hb hby at_58) rfl ?_
        show Steps p.tables e below (T25.setTop (mkF m 59 #[.val (.long d), .second, .val (.int (0 : Int32))] [(.long d), (.int (2 : Int32)), (.ref wEQUAL)])) _
        refine XS.iloadN X25.here hx rfl (hb hby at_59) rfl ?_
        show Steps p.tables e below (T25.setTop (mkF m 60 #[.val (.long d), .second, .val (.int (0 : Int32))] [(.int (0 : Int32)), (.long d), (.int (2 : Int32)), (.ref wEQUAL)])) _
        refine st26 _ ?_
        show Steps p.tables e below (T26.setTop (mkF m 63 #[.val (.long d), .second, .val (.int (0 : Int32))] [(.int (1 : Int32))])) _
        refine XS.ifNo X26.here hx rfl (hb hby at_63) rfl ((if0 _ _).trans (feq (by decide : ¬ ((1 : Int32) = (0 : Int32)))).1) ?_
        show Steps p.tables e below (T26.setTop (mkF m 66 #[.val (.long d), .second, .val (.int (0 : Int32))] [])) _
        refine st27 _ ?_
        show Steps p.tables e below (T27.setTop (mkF m 69 #[.val (.long d), .second, .val (.int (0 : Int32))] [(.ref wUNEQUAL)])) _
        refine XS.iconst X27.here hx rfl (hb hby at_69) ?_
        show Steps p.tables e below (T27.setTop (mkF m 70 #[.val (.long d), .second, .val (.int (0 : Int32))] [(.int (5 : Int32)), (.ref wUNEQUAL)])) _
        refine XS.lloadN X27.here hx rfl (hb hby at_70) rfl ?_
        show Steps p.tables e below (T27.setTop (mkF m 71 #[.val (.long d), .second, .val (.int (0 : Int32))] [(.long d), (.int (5 : Int32)), (.ref wUNEQUAL)])) _
        refine XS.iloadN X27.here hx rfl (hb hby at_71) rfl ?_
        show Steps p.tables e below (T27.setTop (mkF m 72 #[.val (.long d), .second, .val (.int (0 : Int32))] [(.int (0 : Int32)), (.long d), (.int (5 : Int32)), (.ref wUNEQUAL)])) _
        refine st28 _ ?_
        show Steps p.tables e below (T28.setTop (mkF m 75 #[.val (.long d), .second, .val (.int (0 : Int32))] [(.int (1 : Int32))])) _
        refine XS.ifNo X28.here hx rfl (hb hby at_75) rfl ((if0 _ _).trans (feq (by decide : ¬ ((1 : Int32) = (0 : Int32)))).1) ?_
        show Steps p.tables e below (T28.setTop (mkF m 78 #[.val (.long d), .second, .val (.int (0 : Int32))] [])) _
        refine XS.iconst X28.here hx rfl (hb hby at_78) ?_
        show Steps p.tables e below (T28.setTop (mkF m 79 #[.val (.long d), .second, .val (.int (0 : Int32))] [(.int (1 : Int32))])) _
        refine XS.goto X28.here hx rfl (pc0 := 79) (pc' := 83) rfl (hb hby at_79) (by decide) (by decide) ?_
        show Steps p.tables e below (T28.setTop (mkF m 83 #[.val (.long d), .second, .val (.int (0 : Int32))] [(.int (1 : Int32))])) _
        exact retN X28 hx (t := .boolean) Bd.returns (by simp) (hb hby at_83) hr
      · show own_Q_own_law Z d wLESS wAT_MOST wAT_LEAST wGREATER wEQUAL wUNEQUAL h0 n0 _ T28.heap _
        rw [e28]
        exact ⟨rfl, N28⟩
    · skip
      have hg : (0 : Int64) < d := by have h1 := hc1; have h2 := hc15; rw [← Int64.toInt_inj] at h2; rw [Int64.lt_iff_toInt_lt] at *; simp at *; omega
      obtain ⟨_, _, ⟨T29, L29, k29, n29⟩, -, X29, ⟨Lc29, hQ29, l29, y29, z29⟩, st29⟩ := Jvm.LawKit.callS X0 hx (y := (⟨"com/example/antigonish/antigonish/RelationHoldsPinLaw", "sign", "(J)I"⟩ : MethodName)) hown (mvT hZ (hw _ (List.mem_of_getElem? (i := 0) rfl))) (mvT hZ (hw _ (List.mem_of_getElem? (i := 1) rfl))) (mvT hZ (hw _ (List.mem_of_getElem? (i := 2) rfl))) (mvT hZ (hw _ (List.mem_of_getElem? (i := 3) rfl))) (by decide) (backOf (W := 0) (own_sign l Z a0 hw [] d  h0 n0 Z0 ) hZ (hw _ (List.mem_of_getElem? (i := 3) rfl)) (hw _ (List.mem_of_getElem? (i := 2) rfl)) (by decide) (by decide)) (g := (mkF m 1 #[.val (.long d), .second, .unset] [(.long d)])) rfl (by rw [hml]; rfl) (argsL := [(.long d)]) (rest := []) (lenOf own_pd2 rfl) rfl (by show 2 * 0 + _ ≤ _; exact Nat.le_of_eq rfl) (hb hby at_1) (fun _ _ => ⟨rfl, e0, (by decide : 0 + 0 ≤ _), (by decide : 0 + 0 ≤ _)⟩)
      dsimp only [Pt.U, Pt.locs, Pt.cells, Pt.slots] at X29 l29 y29 z29 st29 hQ29
      subst l29 y29 z29
      obtain ⟨hv29, N29q, e29⟩ := hQ29
      simp [hc1, hc15] at hv29
      subst hv29
      have N29 := Fr.app N0 N29q
      obtain ⟨T30, X30, e30, st30⟩ := getS2 X29 hx hZ hown (host := "") (Or.inl (hw _ (List.mem_of_getElem? (i := 4) rfl))) Via.refl e29 S_LESS (g := (mkF m 5 #[.val (.long d), .second, .val (.int (1 : Int32))] [])) rfl (hb hby at_5)
      obtain ⟨_, _, ⟨T31, L31, k31, n31⟩, -, X31, ⟨Lc31, hQ31, l31, y31, z31⟩, st31⟩ := Jvm.LawKit.callS X30 hx (y := (⟨"com/example/antigonish/antigonish/RelationHoldsPinLaw", "agrees", "(Lcom/example/antigonish/antigonish/Relation;IJI)Z"⟩ : MethodName)) hown (mvT hZ (hw _ (List.mem_of_getElem? (i := 7) rfl))) (mvT hZ (hw _ (List.mem_of_getElem? (i := 8) rfl))) (mvT hZ (hw _ (List.mem_of_getElem? (i := 2) rfl))) (mvT hZ (hw _ (List.mem_of_getElem? (i := 9) rfl))) (by decide) (backOf (W := 0) (own_agrees0 l Z a0 hw [] wLESS (1 : Int32) d (1 : Int32)  h0 n0 Z0 F_wLESS E_wLESS (by simp only [hc1, hc15, hg]; decide)) hZ (hw _ (List.mem_of_getElem? (i := 9) rfl)) (hw _ (List.mem_of_getElem? (i := 2) rfl)) (by decide) (by decide)) (g := (mkF m 11 #[.val (.long d), .second, .val (.int (1 : Int32))] [(.int (1 : Int32)), (.long d), (.int (1 : Int32)), (.ref wLESS)])) rfl (by rw [hml]; rfl) (argsL := [(.ref wLESS), (.int (1 : Int32)), (.long d), (.int (1 : Int32))]) (rest := []) (lenOf own_pd3 rfl) rfl (by show 2 * 0 + _ ≤ _; exact Nat.le_of_eq rfl) (hb hby at_11) (fun _ _ => ⟨rfl, e30, (by decide : 0 + 0 ≤ _), (by decide : 0 + 0 ≤ _)⟩)
      dsimp only [Pt.U, Pt.locs, Pt.cells, Pt.slots] at X31 l31 y31 z31 st31 hQ31
      subst l31 y31 z31
      obtain ⟨rfl, N31q, e31⟩ := hQ31
      have N31 := Fr.app N29 N31q
      obtain ⟨T32, X32, e32, st32⟩ := getS2 X31 hx hZ hown (host := "") (Or.inl (hw _ (List.mem_of_getElem? (i := 24) rfl))) Via.refl e31 S_AT_MOST (g := (mkF m 17 #[.val (.long d), .second, .val (.int (1 : Int32))] [])) rfl (hb hby at_17)
      obtain ⟨_, _, ⟨T33, L33, k33, n33⟩, -, X33, ⟨Lc33, hQ33, l33, y33, z33⟩, st33⟩ := Jvm.LawKit.callS X32 hx (y := (⟨"com/example/antigonish/antigonish/RelationHoldsPinLaw", "agrees", "(Lcom/example/antigonish/antigonish/Relation;IJI)Z"⟩ : MethodName)) hown (mvT hZ (hw _ (List.mem_of_getElem? (i := 7) rfl))) (mvT hZ (hw _ (List.mem_of_getElem? (i := 8) rfl))) (mvT hZ (hw _ (List.mem_of_getElem? (i := 2) rfl))) (mvT hZ (hw _ (List.mem_of_getElem? (i := 9) rfl))) (by decide) (backOf (W := 0) (own_agrees1 l Z a0 hw [] wAT_MOST (3 : Int32) d (1 : Int32)  h0 n0 Z0 F_wAT_MOST E_wAT_MOST (by simp only [hc1, hc15, hg]; decide)) hZ (hw _ (List.mem_of_getElem? (i := 9) rfl)) (hw _ (List.mem_of_getElem? (i := 2) rfl)) (by decide) (by decide)) (g := (mkF m 23 #[.val (.long d), .second, .val (.int (1 : Int32))] [(.int (1 : Int32)), (.long d), (.int (3 : Int32)), (.ref wAT_MOST)])) rfl (by rw [hml]; rfl) (argsL := [(.ref wAT_MOST), (.int (3 : Int32)), (.long d), (.int (1 : Int32))]) (rest := []) (lenOf own_pd3 rfl) rfl (by show 2 * 0 + _ ≤ _; exact Nat.le_of_eq rfl) (hb hby at_23) (fun _ _ => ⟨rfl, e32, (by decide : 0 + 0 ≤ _), (by decide : 0 + 0 ≤ _)⟩)
      dsimp only [Pt.U, Pt.locs, Pt.cells, Pt.slots] at X33 l33 y33 z33 st33 hQ33
      subst l33 y33 z33
      obtain ⟨rfl, N33q, e33⟩ := hQ33
      have N33 := Fr.app N31 N33q
      obtain ⟨T34, X34, e34, st34⟩ := getS2 X33 hx hZ hown (host := "") (Or.inl (hw _ (List.mem_of_getElem? (i := 26) rfl))) Via.refl e33 S_AT_LEAST (g := (mkF m 29 #[.val (.long d), .second, .val (.int (1 : Int32))] [])) rfl (hb hby at_29)
      obtain ⟨_, _, ⟨T35, L35, k35, n35⟩, -, X35, ⟨Lc35, hQ35, l35, y35, z35⟩, st35⟩ := Jvm.LawKit.callS X34 hx (y := (⟨"com/example/antigonish/antigonish/RelationHoldsPinLaw", "agrees", "(Lcom/example/antigonish/antigonish/Relation;IJI)Z"⟩ : MethodName)) hown (mvT hZ (hw _ (List.mem_of_getElem? (i := 7) rfl))) (mvT hZ (hw _ (List.mem_of_getElem? (i := 8) rfl))) (mvT hZ (hw _ (List.mem_of_getElem? (i := 2) rfl))) (mvT hZ (hw _ (List.mem_of_getElem? (i := 9) rfl))) (by decide) (backOf (W := 0) (own_agrees2 l Z a0 hw [] wAT_LEAST (6 : Int32) d (1 : Int32)  h0 n0 Z0 F_wAT_LEAST E_wAT_LEAST (by simp only [hc1, hc15, hg]; decide)) hZ (hw _ (List.mem_of_getElem? (i := 9) rfl)) (hw _ (List.mem_of_getElem? (i := 2) rfl)) (by decide) (by decide)) (g := (mkF m 36 #[.val (.long d), .second, .val (.int (1 : Int32))] [(.int (1 : Int32)), (.long d), (.int (6 : Int32)), (.ref wAT_LEAST)])) rfl (by rw [hml]; rfl) (argsL := [(.ref wAT_LEAST), (.int (6 : Int32)), (.long d), (.int (1 : Int32))]) (rest := []) (lenOf own_pd3 rfl) rfl (by show 2 * 0 + _ ≤ _; exact Nat.le_of_eq rfl) (hb hby at_36) (fun _ _ => ⟨rfl, e34, (by decide : 0 + 0 ≤ _), (by decide : 0 + 0 ≤ _)⟩)
      dsimp only [Pt.U, Pt.locs, Pt.cells, Pt.slots] at X35 l35 y35 z35 st35 hQ35
      subst l35 y35 z35
      obtain ⟨rfl, N35q, e35⟩ := hQ35
      have N35 := Fr.app N33 N35q
      obtain ⟨T36, X36, e36, st36⟩ := getS2 X35 hx hZ hown (host := "") (Or.inl (hw _ (List.mem_of_getElem? (i := 28) rfl))) Via.refl e35 S_GREATER (g := (mkF m 42 #[.val (.long d), .second, .val (.int (1 : Int32))] [])) rfl (hb hby at_42)
      obtain ⟨_, _, ⟨T37, L37, k37, n37⟩, -, X37, ⟨Lc37, hQ37, l37, y37, z37⟩, st37⟩ := Jvm.LawKit.callS X36 hx (y := (⟨"com/example/antigonish/antigonish/RelationHoldsPinLaw", "agrees", "(Lcom/example/antigonish/antigonish/Relation;IJI)Z"⟩ : MethodName)) hown (mvT hZ (hw _ (List.mem_of_getElem? (i := 7) rfl))) (mvT hZ (hw _ (List.mem_of_getElem? (i := 8) rfl))) (mvT hZ (hw _ (List.mem_of_getElem? (i := 2) rfl))) (mvT hZ (hw _ (List.mem_of_getElem? (i := 9) rfl))) (by decide) (backOf (W := 0) (own_agrees3 l Z a0 hw [] wGREATER (4 : Int32) d (1 : Int32)  h0 n0 Z0 F_wGREATER E_wGREATER (by simp only [hc1, hc15, hg]; decide)) hZ (hw _ (List.mem_of_getElem? (i := 9) rfl)) (hw _ (List.mem_of_getElem? (i := 2) rfl)) (by decide) (by decide)) (g := (mkF m 48 #[.val (.long d), .second, .val (.int (1 : Int32))] [(.int (1 : Int32)), (.long d), (.int (4 : Int32)), (.ref wGREATER)])) rfl (by rw [hml]; rfl) (argsL := [(.ref wGREATER), (.int (4 : Int32)), (.long d), (.int (1 : Int32))]) (rest := []) (lenOf own_pd3 rfl) rfl (by show 2 * 0 + _ ≤ _; exact Nat.le_of_eq rfl) (hb hby at_48) (fun _ _ => ⟨rfl, e36, (by decide : 0 + 0 ≤ _), (by decide : 0 + 0 ≤ _)⟩)
      dsimp only [Pt.U, Pt.locs, Pt.cells, Pt.slots] at X37 l37 y37 z37 st37 hQ37
      subst l37 y37 z37
      obtain ⟨rfl, N37q, e37⟩ := hQ37
      have N37 := Fr.app N35 N37q
      obtain ⟨T38, X38, e38, st38⟩ := getS2 X37 hx hZ hown (host := "") (Or.inl (hw _ (List.mem_of_getElem? (i := 30) rfl))) Via.refl e37 S_EQUAL (g := (mkF m 54 #[.val (.long d), .second, .val (.int (1 : Int32))] [])) rfl (hb hby at_54)
      obtain ⟨_, _, ⟨T39, L39, k39, n39⟩, -, X39, ⟨Lc39, hQ39, l39, y39, z39⟩, st39⟩ := Jvm.LawKit.callS X38 hx (y := (⟨"com/example/antigonish/antigonish/RelationHoldsPinLaw", "agrees", "(Lcom/example/antigonish/antigonish/Relation;IJI)Z"⟩ : MethodName)) hown (mvT hZ (hw _ (List.mem_of_getElem? (i := 7) rfl))) (mvT hZ (hw _ (List.mem_of_getElem? (i := 8) rfl))) (mvT hZ (hw _ (List.mem_of_getElem? (i := 2) rfl))) (mvT hZ (hw _ (List.mem_of_getElem? (i := 9) rfl))) (by decide) (backOf (W := 0) (own_agrees4 l Z a0 hw [] wEQUAL (2 : Int32) d (1 : Int32)  h0 n0 Z0 F_wEQUAL E_wEQUAL (by simp only [hc1, hc15, hg]; decide)) hZ (hw _ (List.mem_of_getElem? (i := 9) rfl)) (hw _ (List.mem_of_getElem? (i := 2) rfl)) (by decide) (by decide)) (g := (mkF m 60 #[.val (.long d), .second, .val (.int (1 : Int32))] [(.int (1 : Int32)), (.long d), (.int (2 : Int32)), (.ref wEQUAL)])) rfl (by rw [hml]; rfl) (argsL := [(.ref wEQUAL), (.int (2 : Int32)), (.long d), (.int (1 : Int32))]) (rest := []) (lenOf own_pd3 rfl) rfl (by show 2 * 0 + _ ≤ _; exact Nat.le_of_eq rfl) (hb hby at_60) (fun _ _ => ⟨rfl, e38, (by decide : 0 + 0 ≤ _), (by decide : 0 + 0 ≤ _)⟩)
      dsimp only [Pt.U, Pt.locs, Pt.cells, Pt.slots] at X39 l39 y39 z39 st39 hQ39
      subst l39 y39 z39
      obtain ⟨rfl, N39q, e39⟩ := hQ39
      have N39 := Fr.app N37 N39q
      obtain ⟨T40, X40, e40, st40⟩ := getS2 X39 hx hZ hown (host := "") (Or.inl (hw _ (List.mem_of_getElem? (i := 32) rfl))) Via.refl e39 S_UNEQUAL (g := (mkF m 66 #[.val (.long d), .second, .val (.int (1 : Int32))] [])) rfl (hb hby at_66)
      obtain ⟨_, _, ⟨T41, L41, k41, n41⟩, -, X41, ⟨Lc41, hQ41, l41, y41, z41⟩, st41⟩ := Jvm.LawKit.callS X40 hx (y := (⟨"com/example/antigonish/antigonish/RelationHoldsPinLaw", "agrees", "(Lcom/example/antigonish/antigonish/Relation;IJI)Z"⟩ : MethodName)) hown (mvT hZ (hw _ (List.mem_of_getElem? (i := 7) rfl))) (mvT hZ (hw _ (List.mem_of_getElem? (i := 8) rfl))) (mvT hZ (hw _ (List.mem_of_getElem? (i := 2) rfl))) (mvT hZ (hw _ (List.mem_of_getElem? (i := 9) rfl))) (by decide) (backOf (W := 0) (own_agrees5 l Z a0 hw [] wUNEQUAL (5 : Int32) d (1 : Int32)  h0 n0 Z0 F_wUNEQUAL E_wUNEQUAL (by simp only [hc1, hc15, hg]; decide)) hZ (hw _ (List.mem_of_getElem? (i := 9) rfl)) (hw _ (List.mem_of_getElem? (i := 2) rfl)) (by decide) (by decide)) (g := (mkF m 72 #[.val (.long d), .second, .val (.int (1 : Int32))] [(.int (1 : Int32)), (.long d), (.int (5 : Int32)), (.ref wUNEQUAL)])) rfl (by rw [hml]; rfl) (argsL := [(.ref wUNEQUAL), (.int (5 : Int32)), (.long d), (.int (1 : Int32))]) (rest := []) (lenOf own_pd3 rfl) rfl (by show 2 * 0 + _ ≤ _; exact Nat.le_of_eq rfl) (hb hby at_72) (fun _ _ => ⟨rfl, e40, (by decide : 0 + 0 ≤ _), (by decide : 0 + 0 ≤ _)⟩)
      dsimp only [Pt.U, Pt.locs, Pt.cells, Pt.slots] at X41 l41 y41 z41 st41 hQ41
      subst l41 y41 z41
      obtain ⟨rfl, N41q, e41⟩ := hQ41
      have N41 := Fr.app N39 N41q
      obtain ⟨fs, hr, hrun, hended, hW, hsame⟩ := X41.leave (v := some (.int (1 : Int32))) (fun h => by rw [Bd.returns] at h; cases h)
      refine ⟨_, _, pre0 _ ?_, hrun, hended, _, _, rfl, ?_, ⟨_, rfl⟩, hW, hsame.mono (by decide) (by decide)⟩
      · show Steps p.tables e below (s₁.setTop (mkF m 0 #[.val (.long d), .second, .unset] [])) _
        refine XS.lloadN X0.here hx rfl (hb hby at_0) rfl ?_
        show Steps p.tables e below (s₁.setTop (mkF m 1 #[.val (.long d), .second, .unset] [(.long d)])) _
        refine st29 _ ?_
        show Steps p.tables e below (T29.setTop (mkF m 4 #[.val (.long d), .second, .unset] [(.int (1 : Int32))])) _
        refine XS.istoreN X29.here hx rfl (hb hby at_4) rfl (l' := #[.val (.long d), .second, .val (.int (1 : Int32))]) rfl ?_
        show Steps p.tables e below (T29.setTop (mkF m 5 #[.val (.long d), .second, .val (.int (1 : Int32))] [])) _
        refine st30 _ ?_
        show Steps p.tables e below (T30.setTop (mkF m 8 #[.val (.long d), .second, .val (.int (1 : Int32))] [(.ref wLESS)])) _
        refine XS.iconst X30.here hx rfl (hb hby at_8) ?_
        show Steps p.tables e below (T30.setTop (mkF m 9 #[.val (.long d), .second, .val (.int (1 : Int32))] [(.int (1 : Int32)), (.ref wLESS)])) _
        refine XS.lloadN X30.here hx rfl (hb hby at_9) rfl ?_
        show Steps p.tables e below (T30.setTop (mkF m 10 #[.val (.long d), .second, .val (.int (1 : Int32))] [(.long d), (.int (1 : Int32)), (.ref wLESS)])) _
        refine XS.iloadN X30.here hx rfl (hb hby at_10) rfl ?_
        show Steps p.tables e below (T30.setTop (mkF m 11 #[.val (.long d), .second, .val (.int (1 : Int32))] [(.int (1 : Int32)), (.long d), (.int (1 : Int32)), (.ref wLESS)])) _
        refine st31 _ ?_
        show Steps p.tables e below (T31.setTop (mkF m 14 #[.val (.long d), .second, .val (.int (1 : Int32))] [(.int (1 : Int32))])) _
        refine XS.ifNo X31.here hx rfl (hb hby at_14) rfl ((if0 _ _).trans (feq (by decide : ¬ ((1 : Int32) = (0 : Int32)))).1) ?_
        show Steps p.tables e below (T31.setTop (mkF m 17 #[.val (.long d), .second, .val (.int (1 : Int32))] [])) _
        refine st32 _ ?_
        show Steps p.tables e below (T32.setTop (mkF m 20 #[.val (.long d), .second, .val (.int (1 : Int32))] [(.ref wAT_MOST)])) _
        refine XS.iconst X32.here hx rfl (hb hby at_20) ?_
        show Steps p.tables e below (T32.setTop (mkF m 21 #[.val (.long d), .second, .val (.int (1 : Int32))] [(.int (3 : Int32)), (.ref wAT_MOST)])) _
        refine XS.lloadN X32.here hx rfl (hb hby at_21) rfl ?_
        show Steps p.tables e below (T32.setTop (mkF m 22 #[.val (.long d), .second, .val (.int (1 : Int32))] [(.long d), (.int (3 : Int32)), (.ref wAT_MOST)])) _
        refine XS.iloadN X32.here hx rfl (hb hby at_22) rfl ?_
        show Steps p.tables e below (T32.setTop (mkF m 23 #[.val (.long d), .second, .val (.int (1 : Int32))] [(.int (1 : Int32)), (.long d), (.int (3 : Int32)), (.ref wAT_MOST)])) _
        refine st33 _ ?_
        show Steps p.tables e below (T33.setTop (mkF m 26 #[.val (.long d), .second, .val (.int (1 : Int32))] [(.int (1 : Int32))])) _
        refine XS.ifNo X33.here hx rfl (hb hby at_26) rfl ((if0 _ _).trans (feq (by decide : ¬ ((1 : Int32) = (0 : Int32)))).1) ?_
        show Steps p.tables e below (T33.setTop (mkF m 29 #[.val (.long d), .second, .val (.int (1 : Int32))] [])) _
        refine st34 _ ?_
        show Steps p.tables e below (T34.setTop (mkF m 32 #[.val (.long d), .second, .val (.int (1 : Int32))] [(.ref wAT_LEAST)])) _
        refine XS.bipush X34.here hx rfl (hb hby at_32) ?_
        show Steps p.tables e below (T34.setTop (mkF m 34 #[.val (.long d), .second, .val (.int (1 : Int32))] [(.int (6 : Int32)), (.ref wAT_LEAST)])) _
        refine XS.lloadN X34.here hx rfl (hb hby at_34) rfl ?_
        show Steps p.tables e below (T34.setTop (mkF m 35 #[.val (.long d), .second, .val (.int (1 : Int32))] [(.long d), (.int (6 : Int32)), (.ref wAT_LEAST)])) _
        refine XS.iloadN X34.here hx rfl (hb hby at_35) rfl ?_
        show Steps p.tables e below (T34.setTop (mkF m 36 #[.val (.long d), .second, .val (.int (1 : Int32))] [(.int (1 : Int32)), (.long d), (.int (6 : Int32)), (.ref wAT_LEAST)])) _
        refine st35 _ ?_
        show Steps p.tables e below (T35.setTop (mkF m 39 #[.val (.long d), .second, .val (.int (1 : Int32))] [(.int (1 : Int32))])) _
        refine XS.ifNo X35.here hx rfl (hb hby at_39) rfl ((if0 _ _).trans (feq (by decide : ¬ ((1 : Int32) = (0 : Int32)))).1) ?_
        show Steps p.tables e below (T35.setTop (mkF m 42 #[.val (.long d), .second, .val (.int (1 : Int32))] [])) _
        refine st36 _ ?_
        show Steps p.tables e below (T36.setTop (mkF m 45 #[.val (.long d), .second, .val (.int (1 : Int32))] [(.ref wGREATER)])) _
        refine XS.iconst X36.here hx rfl (hb hby at_45) ?_
        show Steps p.tables e below (T36.setTop (mkF m 46 #[.val (.long d), .second, .val (.int (1 : Int32))] [(.int (4 : Int32)), (.ref wGREATER)])) _
        refine XS.lloadN X36.here hx rfl (hb hby at_46) rfl ?_
        show Steps p.tables e below (T36.setTop (mkF m 47 #[.val (.long d), .second, .val (.int (1 : Int32))] [(.long d), (.int (4 : Int32)), (.ref wGREATER)])) _
        refine XS.iloadN X36.here hx rfl (hb hby at_47) rfl ?_
        show Steps p.tables e below (T36.setTop (mkF m 48 #[.val (.long d), .second, .val (.int (1 : Int32))] [(.int (1 : Int32)), (.long d), (.int (4 : Int32)), (.ref wGREATER)])) _
        refine st37 _ ?_
        show Steps p.tables e below (T37.setTop (mkF m 51 #[.val (.long d), .second, .val (.int (1 : Int32))] [(.int (1 : Int32))])) _
        refine XS.ifNo X37.here hx rfl (hb hby at_51) rfl ((if0 _ _).trans (feq (by decide : ¬ ((1 : Int32) = (0 : Int32)))).1) ?_
        show Steps p.tables e below (T37.setTop (mkF m 54 #[.val (.long d), .second, .val (.int (1 : Int32))] [])) _
        refine st38 _ ?_
        show Steps p.tables e below (T38.setTop (mkF m 57 #[.val (.long d), .second, .val (.int (1 : Int32))] [(.ref wEQUAL)])) _
        refine XS.iconst X38.here hx rfl (hb hby at_57) ?_
        show Steps p.tables e below (T38.setTop (mkF m 58 #[.val (.long d), .second, .val (.int (1 : Int32))] [(.int (2 : Int32)), (.ref wEQUAL)])) _
        refine XS.lloadN X38.here hx rfl (hb hby at_58) rfl ?_
        show Steps p.tables e below (T38.setTop (mkF m 59 #[.val (.long d), .second, .val (.int (1 : Int32))] [(.long d), (.int (2 : Int32)), (.ref wEQUAL)])) _
        refine XS.iloadN X38.here hx rfl (hb hby at_59) rfl ?_
        show Steps p.tables e below (T38.setTop (mkF m 60 #[.val (.long d), .second, .val (.int (1 : Int32))] [(.int (1 : Int32)), (.long d), (.int (2 : Int32)), (.ref wEQUAL)])) _
        refine st39 _ ?_
        show Steps p.tables e below (T39.setTop (mkF m 63 #[.val (.long d), .second, .val (.int (1 : Int32))] [(.int (1 : Int32))])) _
        refine XS.ifNo X39.here hx rfl (hb hby at_63) rfl ((if0 _ _).trans (feq (by decide : ¬ ((1 : Int32) = (0 : Int32)))).1) ?_
        show Steps p.tables e below (T39.setTop (mkF m 66 #[.val (.long d), .second, .val (.int (1 : Int32))] [])) _
        refine st40 _ ?_
        show Steps p.tables e below (T40.setTop (mkF m 69 #[.val (.long d), .second, .val (.int (1 : Int32))] [(.ref wUNEQUAL)])) _
        refine XS.iconst X40.here hx rfl (hb hby at_69) ?_
        show Steps p.tables e below (T40.setTop (mkF m 70 #[.val (.long d), .second, .val (.int (1 : Int32))] [(.int (5 : Int32)), (.ref wUNEQUAL)])) _
        refine XS.lloadN X40.here hx rfl (hb hby at_70) rfl ?_
        show Steps p.tables e below (T40.setTop (mkF m 71 #[.val (.long d), .second, .val (.int (1 : Int32))] [(.long d), (.int (5 : Int32)), (.ref wUNEQUAL)])) _
        refine XS.iloadN X40.here hx rfl (hb hby at_71) rfl ?_
        show Steps p.tables e below (T40.setTop (mkF m 72 #[.val (.long d), .second, .val (.int (1 : Int32))] [(.int (1 : Int32)), (.long d), (.int (5 : Int32)), (.ref wUNEQUAL)])) _
        refine st41 _ ?_
        show Steps p.tables e below (T41.setTop (mkF m 75 #[.val (.long d), .second, .val (.int (1 : Int32))] [(.int (1 : Int32))])) _
        refine XS.ifNo X41.here hx rfl (hb hby at_75) rfl ((if0 _ _).trans (feq (by decide : ¬ ((1 : Int32) = (0 : Int32)))).1) ?_
        show Steps p.tables e below (T41.setTop (mkF m 78 #[.val (.long d), .second, .val (.int (1 : Int32))] [])) _
        refine XS.iconst X41.here hx rfl (hb hby at_78) ?_
        show Steps p.tables e below (T41.setTop (mkF m 79 #[.val (.long d), .second, .val (.int (1 : Int32))] [(.int (1 : Int32))])) _
        refine XS.goto X41.here hx rfl (pc0 := 79) (pc' := 83) rfl (hb hby at_79) (by decide) (by decide) ?_
        show Steps p.tables e below (T41.setTop (mkF m 83 #[.val (.long d), .second, .val (.int (1 : Int32))] [(.int (1 : Int32))])) _
        exact retN X41 hx (t := .boolean) Bd.returns (by simp) (hb hby at_83) hr
      · show own_Q_own_law Z d wLESS wAT_MOST wAT_LEAST wGREATER wEQUAL wUNEQUAL h0 n0 _ T41.heap _
        rw [e41]
        exact ⟨rfl, N41⟩
set_option maxRecDepth 65536 in
set_option maxHeartbeats 40000000 in
theorem own_comes_1 {Post : Tables → Env → Array Value → State → Outcome → State → Prop} (hpost : ∀ tb e args s v u, (limb_1_1.after args s (.returned v) u = true ∧ limb_1_2.after args s (.returned v) u = true ∧ True) → FrameEnd s (.returned v) u (Jvm.fieldLocs frame_1_writes args s ++ Jvm.arrayLocs frame_1_arrays args s ++ Jvm.staticLocs frame_1_statics s) 0 0 → Post tb e args s (.returned v) u) :
    ArmFor flags0 classFile x code maxLocals ret World_1 tables_1 room_1 Calls_1 rest_1 Pre_1 Post := by
  intro l hfl _ _ p e ha hc hk s m args below hf hA hF happ hP
  obtain ⟨hcalls, hrest, hpre⟩ := hP
  obtain ⟨-, -, -, hnamed, -, -, -, hat⟩ := (Spec.applies_iff hf).mp happ
  obtain ⟨hg, hn⟩ := and_e (Cond.before_iff.mp (show (Jvm.Cond.and given_1 narrow_1).before args s = true from hpre))
  obtain ⟨g1, g2⟩ := and_e hg
  obtain ⟨g3, g4⟩ := and_e hn
  obtain ⟨g5, g6⟩ := and_e g4
  obtain ⟨g7, g8⟩ := and_e g6
  obtain ⟨g9, g10⟩ := and_e g8
  obtain ⟨g11, g12⟩ := and_e g10
  obtain ⟨g13, g14⟩ := and_e g12
  obtain ⟨g15, g16⟩ := and_e g14
  obtain ⟨g17, g18⟩ := and_e g16
  obtain ⟨g19, g20⟩ := and_e g18
  obtain ⟨g21, g22⟩ := and_e g20
  obtain ⟨g23, g24⟩ := and_e g22
  obtain ⟨w0, rfl⟩ : ∃ w0 : Value, args = #[w0] := by
    have hs : args.size = 1 := by simpa [Cond.value, given_1] using g1
    obtain ⟨L⟩ := args
    match L, hs with
    | [w0], _ => exact ⟨w0, rfl⟩
  have hw := fun d (hd : d ∈ tables_1) => atoms_spec (ws := Jvm.Cond.code x code maxLocals ret :: tables_1) hat d (List.mem_cons_of_mem _ hd)
  have hfit : Fit s := fun {y c} hc i hi => by
    obtain ⟨ha, rfl⟩ := Array.getElem?_eq_some_iff.mp hc
    have q := List.all_eq_true.mp ((Array.all_eq_true_iff_forall_mem.mp hF) _ (Array.getElem_mem ha)) i (List.mem_range.mpr hi)
    simpa [Array.getElem?_eq_getElem hi] using q
  obtain ⟨i0, ei0⟩ := isL_v g2
  obtain rfl : w0 = (.long i0) := Option.some.inj ei0
  obtain ⟨wLESS, ev_wLESS⟩ := exa_v g3
  have S_LESS := Sta.start ev_wLESS (Or.inr ⟨(hw _ (List.mem_of_getElem? (i := 5) rfl)), (hw _ (List.mem_of_getElem? (i := 6) rfl))⟩)
  have E_wLESS := Exa.start ev_wLESS g3
  obtain ⟨wAT_MOST, ev_wAT_MOST⟩ := exa_v g7
  have S_AT_MOST := Sta.start ev_wAT_MOST (Or.inr ⟨(hw _ (List.mem_of_getElem? (i := 5) rfl)), (hw _ (List.mem_of_getElem? (i := 25) rfl))⟩)
  have E_wAT_MOST := Exa.start ev_wAT_MOST g7
  obtain ⟨wAT_LEAST, ev_wAT_LEAST⟩ := exa_v g11
  have S_AT_LEAST := Sta.start ev_wAT_LEAST (Or.inr ⟨(hw _ (List.mem_of_getElem? (i := 5) rfl)), (hw _ (List.mem_of_getElem? (i := 27) rfl))⟩)
  have E_wAT_LEAST := Exa.start ev_wAT_LEAST g11
  obtain ⟨wGREATER, ev_wGREATER⟩ := exa_v g15
  have S_GREATER := Sta.start ev_wGREATER (Or.inr ⟨(hw _ (List.mem_of_getElem? (i := 5) rfl)), (hw _ (List.mem_of_getElem? (i := 29) rfl))⟩)
  have E_wGREATER := Exa.start ev_wGREATER g15
  obtain ⟨wEQUAL, ev_wEQUAL⟩ := exa_v g19
  have S_EQUAL := Sta.start ev_wEQUAL (Or.inr ⟨(hw _ (List.mem_of_getElem? (i := 5) rfl)), (hw _ (List.mem_of_getElem? (i := 31) rfl))⟩)
  have E_wEQUAL := Exa.start ev_wEQUAL g19
  obtain ⟨wUNEQUAL, ev_wUNEQUAL⟩ := exa_v g23
  have S_UNEQUAL := Sta.start ev_wUNEQUAL (Or.inr ⟨(hw _ (List.mem_of_getElem? (i := 5) rfl)), (hw _ (List.mem_of_getElem? (i := 33) rfl))⟩)
  have E_wUNEQUAL := Exa.start ev_wUNEQUAL g23
  have F_wLESS_ordinal := own_fldI ev_wLESS g5
  have F_wAT_MOST_ordinal := own_fldI ev_wAT_MOST g9
  have F_wAT_LEAST_ordinal := own_fldI ev_wAT_LEAST g13
  have F_wGREATER_ordinal := own_fldI ev_wGREATER g17
  have F_wEQUAL_ordinal := own_fldI ev_wEQUAL g21
  have F_wUNEQUAL_ordinal := own_fldI ev_wUNEQUAL g24
  obtain ⟨n, o, h1, h2, h3, _, L, rfl, ⟨rfl, N⟩, hq⟩ := own_law l s _ hw tables_1 i0 wLESS wAT_MOST wAT_LEAST wGREATER wEQUAL wUNEQUAL s.heap s.heap.size (Nat.le_refl _) S_LESS S_AT_MOST S_AT_LEAST S_GREATER S_EQUAL S_UNEQUAL E_wLESS E_wAT_MOST E_wAT_LEAST E_wGREATER E_wEQUAL E_wUNEQUAL F_wLESS_ordinal F_wAT_MOST_ordinal F_wAT_LEAST_ordinal F_wGREATER_ordinal F_wEQUAL_ordinal F_wUNEQUAL_ordinal p e ha hc hk s m _ below hf ((Spec.applies_iff_loose hf).mp happ).1 ⟨rfl, State.Warmed39.refl s, rfl⟩ trivial
  refine ⟨n, _, h1, h2, h3, hpost _ _ _ _ _ _ ⟨Cond.after_iff.mpr rfl, Cond.after_iff.mpr (eq_i res_at (Term.int_eval (1)) rfl), trivial⟩ ⟨hq.1, hq.2.1, (hq.2.2.sift fun y hy => Or.inr (N y hy)).mono (by decide) (by decide)⟩⟩
theorem main_1_1 : Claimed_1_1 := own_comes_1 fun _ _ _ _ _ _ h hF => ⟨h.1, hF⟩
theorem main_1_2 : Claimed_1_2 := own_comes_1 fun _ _ _ _ _ _ h hF => ⟨h.2.1, hF⟩
end Jvm.Pilot.@@N@@
namespace Jvm.Pilot.@@N@@
open Jvm Jvm.ClassFile Sem Op Lib Jvm.Free Jvm.Stand Jvm.Pilot.@@N@@.Jvm.D
/-! MADE BY PROGRAM (witnessworld.py) out of the Statement's table words and the real class files: 12 classes; the members and pool entries that the words name. The judged class is class 1, her method 3. -/
namespace start1
open Jvm.ClassFile
def u (s : String) : CpInfo := .utf8 (stringToUtf16 s)
/-- a pool by its gaps: so many unusable entries, then the entry; so many at the end -/
def gap : Nat → List CpInfo → List CpInfo
  | 0, r => r
  | n + 1, r => .unusable :: gap n r
def poolList (es : List (Nat × CpInfo)) (last : Nat) : List CpInfo := es.foldr (fun e r => gap e.1 (e.2 :: r)) (gap last [])
def pool (es : List (Nat × CpInfo)) (last : Nat) : Array CpInfo := ⟨poolList es last⟩
def fileOf (pool : Array CpInfo) (this : Nat) (attrs : Array Attribute := #[]) (ms : Array MethodInfo := #[]) (fl : Nat := 33) (sup : Nat := 0) (ifs : Array Nat := #[]) (fds : Array FieldInfo := #[]) : ClassFile where
  minorVersion := 0
  majorVersion := 65
  constantPool := pool
  accessFlags := fl
  thisClass := this
  superClass := sup
  interfaces := ifs
  fields := fds
  methods := ms
  attributes := attrs
def plain (name : String) (sup : Option ClassId) : Class where
  name := name
  kind := .ordinary
  loader := none
  accessFlags := 33
  super := sup
  interfaces := #[]
  cf := none
  fields := #[]
  methods := #[]
  instanceTypes := #[]
  staticTypes := #[]
  resolved := #[]
  callSites := []
  init := .initialized
  statics := none
  mirror := none

def pool0 : Array CpInfo := pool [(5, u "<init>"), (0, u "()V"), (1, .class_ 10), (1, u "java/lang/Object")] 113

def k0m0 : Method := { name := "<init>", desc := "()V", sig := { parameters := [], returnType := none }, accessFlags := 1, code := none }
/-- java/lang/Object -/
def k0 : Class := { plain "java/lang/Object" none with
  accessFlags := 33
  interfaces := #[]
  cf := some (fileOf pool0 8 #[] #[{ accessFlags := 1, nameIndex := 5, descriptorIndex := 6, attributes := #[] }] 33 0 #[] #[])
  fields := #[]
  methods := #[k0m0]
  instanceTypes := #[]
  staticTypes := #[]
  resolved := Array.replicate 124 none
  statics := none }

def pool1 : Array CpInfo := pool [(2, .class_ 4), (1, u "java/lang/Object"), (0, u "<init>"), (0, u "()V"), (0, .methodref 8 9), (0, .class_ 10), (0, .nameAndType 11 12), (0, u "com/example/antigonish/antigonish/Relation"), (0, u "holds"), (0, u "(J)Z"), (0, .methodref 14 15), (0, .class_ 16), (0, .nameAndType 17 18), (0, u "com/example/antigonish/antigonish/RelationHoldsPinLaw"), (0, u "sign"), (0, u "(J)I"), (0, .fieldref 8 20), (0, .nameAndType 21 22), (0, u "LESS"), (0, u "Lcom/example/antigonish/antigonish/Relation;"), (0, .methodref 14 24), (0, .nameAndType 25 26), (0, u "agrees"), (0, u "(Lcom/example/antigonish/antigonish/Relation;IJI)Z"), (0, .fieldref 8 28), (0, .nameAndType 29 22), (0, u "AT_MOST"), (0, .fieldref 8 31), (0, .nameAndType 32 22), (0, u "AT_LEAST"), (0, .fieldref 8 34), (0, .nameAndType 35 22), (0, u "GREATER"), (0, .fieldref 8 37), (0, .nameAndType 38 22), (0, u "EQUAL"), (0, .fieldref 8 40), (0, .nameAndType 41 22), (0, u "UNEQUAL"), (3, u "law")] 2

def k1m0 : Method := { name := "<init>", desc := "()V", sig := { parameters := [], returnType := none }, accessFlags := 2, code := none }
def k1c1 : Code := { maxStack := 4, maxLocals := 2, code := method_2_code, exceptionTable := #[], attributes := #[] }
def k1m1 : Method := { name := "sign", desc := "(J)I", sig := { parameters := [.long], returnType := some .int }, accessFlags := 10, code := some k1c1 }
def k1c2 : Code := { maxStack := 3, maxLocals := 6, code := method_3_code, exceptionTable := #[], attributes := #[] }
def k1m2 : Method := { name := "agrees", desc := "(Lcom/example/antigonish/antigonish/Relation;IJI)Z", sig := { parameters := [(.object "com/example/antigonish/antigonish/Relation"), .int, .long, .int], returnType := some .boolean }, accessFlags := 10, code := some k1c2 }
def k1c3 : Code := { maxStack := 5, maxLocals := 3, code := code, exceptionTable := #[], attributes := #[] }
def k1m3 : Method := { name := "law", desc := "(J)Z", sig := { parameters := [.long], returnType := some .boolean }, accessFlags := 9, code := some k1c3 }
/-- com/example/antigonish/antigonish/RelationHoldsPinLaw -/
def k1 : Class := { plain "com/example/antigonish/antigonish/RelationHoldsPinLaw" (some 0) with
  accessFlags := 49
  interfaces := #[]
  cf := some (fileOf pool1 14 #[] #[{ accessFlags := 2, nameIndex := 5, descriptorIndex := 6, attributes := #[] }, { accessFlags := 10, nameIndex := 17, descriptorIndex := 18, attributes := #[] }, { accessFlags := 10, nameIndex := 25, descriptorIndex := 26, attributes := #[] }, { accessFlags := 9, nameIndex := 45, descriptorIndex := 12, attributes := #[] }] 49 2 #[] #[])
  fields := #[]
  methods := #[k1m0, k1m1, k1m2, k1m3]
  instanceTypes := #[]
  staticTypes := #[]
  resolved := Array.replicate 48 none
  statics := none }

def pool2 : Array CpInfo := pool [(1, .class_ 2), (0, u "java/lang/constant/Constable"), (0, .class_ 4), (0, u "java/lang/Object")] 6

/-- java/lang/constant/Constable -/
def k2 : Class := { plain "java/lang/constant/Constable" (some 0) with
  accessFlags := 1537
  interfaces := #[]
  cf := some (fileOf pool2 1 #[] #[] 1537 3 #[] #[])
  fields := #[]
  methods := #[]
  instanceTypes := #[]
  staticTypes := #[]
  resolved := Array.replicate 11 none
  statics := none }

def pool3 : Array CpInfo := pool [(1, .class_ 2), (0, u "java/lang/Comparable"), (0, .class_ 4), (0, u "java/lang/Object")] 7

/-- java/lang/Comparable -/
def k3 : Class := { plain "java/lang/Comparable" (some 0) with
  accessFlags := 1537
  interfaces := #[]
  cf := some (fileOf pool3 1 #[] #[] 1537 3 #[] #[])
  fields := #[]
  methods := #[]
  instanceTypes := #[]
  staticTypes := #[]
  resolved := Array.replicate 12 none
  statics := none }

def pool4 : Array CpInfo := pool [(1, .class_ 2), (0, u "java/io/Serializable"), (0, .class_ 4), (0, u "java/lang/Object")] 2

/-- java/io/Serializable -/
def k4 : Class := { plain "java/io/Serializable" (some 0) with
  accessFlags := 1537
  interfaces := #[]
  cf := some (fileOf pool4 1 #[] #[] 1537 3 #[] #[])
  fields := #[]
  methods := #[]
  instanceTypes := #[]
  staticTypes := #[]
  resolved := Array.replicate 7 none
  statics := none }

def pool5 : Array CpInfo := pool [(2, .class_ 4), (1, u "java/lang/Enum"), (0, u "name"), (0, u "Ljava/lang/String;"), (0, .fieldref 2 8), (0, .nameAndType 9 10), (0, u "ordinal"), (0, u "I"), (1, .class_ 14), (1, u "java/lang/Object"), (4, u "hash"), (86, .class_ 108), (1, u "java/lang/Enum$EnumDesc"), (2, .class_ 112), (0, u "java/lang/constant/Constable"), (0, .class_ 114), (0, u "java/lang/Comparable"), (0, .class_ 116), (0, u "java/io/Serializable"), (9, u "()I")] 77

def k5c0 : Code := { maxStack := 1, maxLocals := 1, code := jdk_37_method_2_code, exceptionTable := #[], attributes := #[] }
def k5m0 : Method := { name := "ordinal", desc := "()I", sig := { parameters := [], returnType := some .int }, accessFlags := 17, code := some k5c0 }
/-- java/lang/Enum -/
def k5 : Class := { plain "java/lang/Enum" (some 0) with
  accessFlags := 1057
  interfaces := #[2, 3, 4]
  cf := some (fileOf pool5 2 #[.nestMembers #[106]] #[{ accessFlags := 17, nameIndex := 9, descriptorIndex := 126, attributes := #[] }] 1057 12 #[111, 113, 115] #[{ accessFlags := 18, nameIndex := 5, descriptorIndex := 6, attributes := #[] }, { accessFlags := 18, nameIndex := 9, descriptorIndex := 10, attributes := #[] }, { accessFlags := 2, nameIndex := 19, descriptorIndex := 10, attributes := #[] }])
  fields := #[{ name := "name", type := (.object "java/lang/String"), accessFlags := 18, slot := 0, constantValue := 0 }, { name := "ordinal", type := .int, accessFlags := 18, slot := 1, constantValue := 0 }, { name := "hash", type := .int, accessFlags := 2, slot := 2, constantValue := 0 }]
  methods := #[k5m0]
  instanceTypes := #[(.object "java/lang/String"), .int, .int]
  staticTypes := #[]
  resolved := Array.replicate 204 none
  statics := none }

def pool6 : Array CpInfo := pool [(1, .class_ 2), (0, u "com/example/antigonish/antigonish/Relation"), (2, u "LESS"), (0, u "Lcom/example/antigonish/antigonish/Relation;"), (2, u "AT_MOST"), (2, u "AT_LEAST"), (2, u "GREATER"), (2, u "EQUAL"), (2, u "UNEQUAL"), (2, u "$VALUES"), (0, u "[Lcom/example/antigonish/antigonish/Relation;"), (6, .class_ 34), (1, u "java/lang/Enum"), (8, u "_symbol"), (0, u "Ljava/lang/String;"), (13, u "()I"), (0, .methodref 1 60), (0, .nameAndType 61 58), (0, u "ordinal"), (24, u "EXPECTED"), (14, u "holds"), (0, u "(J)Z")] 5

def k6c0 : Code := { maxStack := 4, maxLocals := 4, code := prog_56_method_6_code, exceptionTable := #[], attributes := #[] }
def k6m0 : Method := { name := "holds", desc := "(J)Z", sig := { parameters := [.long], returnType := some .boolean }, accessFlags := 0, code := some k6c0 }
/-- com/example/antigonish/antigonish/Relation -/
def k6 : Class := { plain "com/example/antigonish/antigonish/Relation" (some 5) with
  accessFlags := 16432
  interfaces := #[]
  cf := some (fileOf pool6 1 #[] #[{ accessFlags := 0, nameIndex := 101, descriptorIndex := 102, attributes := #[] }] 16432 32 #[] #[{ accessFlags := 16409, nameIndex := 5, descriptorIndex := 6, attributes := #[] }, { accessFlags := 16409, nameIndex := 9, descriptorIndex := 6, attributes := #[] }, { accessFlags := 16409, nameIndex := 12, descriptorIndex := 6, attributes := #[] }, { accessFlags := 16409, nameIndex := 15, descriptorIndex := 6, attributes := #[] }, { accessFlags := 16409, nameIndex := 18, descriptorIndex := 6, attributes := #[] }, { accessFlags := 16409, nameIndex := 21, descriptorIndex := 6, attributes := #[] }, { accessFlags := 24, nameIndex := 86, descriptorIndex := 44, attributes := #[] }, { accessFlags := 18, nameIndex := 43, descriptorIndex := 44, attributes := #[] }, { accessFlags := 4122, nameIndex := 24, descriptorIndex := 25, attributes := #[] }])
  fields := #[{ name := "LESS", type := (.object "com/example/antigonish/antigonish/Relation"), accessFlags := 16409, slot := 0, constantValue := 0 }, { name := "AT_MOST", type := (.object "com/example/antigonish/antigonish/Relation"), accessFlags := 16409, slot := 1, constantValue := 0 }, { name := "AT_LEAST", type := (.object "com/example/antigonish/antigonish/Relation"), accessFlags := 16409, slot := 2, constantValue := 0 }, { name := "GREATER", type := (.object "com/example/antigonish/antigonish/Relation"), accessFlags := 16409, slot := 3, constantValue := 0 }, { name := "EQUAL", type := (.object "com/example/antigonish/antigonish/Relation"), accessFlags := 16409, slot := 4, constantValue := 0 }, { name := "UNEQUAL", type := (.object "com/example/antigonish/antigonish/Relation"), accessFlags := 16409, slot := 5, constantValue := 0 }, { name := "EXPECTED", type := (.object "java/lang/String"), accessFlags := 24, slot := 6, constantValue := 0 }, { name := "_symbol", type := (.object "java/lang/String"), accessFlags := 18, slot := 3, constantValue := 0 }, { name := "$VALUES", type := (.array (.object "com/example/antigonish/antigonish/Relation")), accessFlags := 4122, slot := 7, constantValue := 0 }]
  methods := #[k6m0]
  instanceTypes := #[(.object "java/lang/String"), .int, .int, (.object "java/lang/String")]
  staticTypes := #[(.object "com/example/antigonish/antigonish/Relation"), (.object "com/example/antigonish/antigonish/Relation"), (.object "com/example/antigonish/antigonish/Relation"), (.object "com/example/antigonish/antigonish/Relation"), (.object "com/example/antigonish/antigonish/Relation"), (.object "com/example/antigonish/antigonish/Relation"), (.object "java/lang/String"), (.array (.object "com/example/antigonish/antigonish/Relation"))]
  resolved := Array.replicate 108 none
  statics := some 0 }

def pool7 : Array CpInfo := pool [(1, u "java/lang/Cloneable"), (0, .class_ 1), (0, u "java/lang/Object"), (0, .class_ 3)] 3

/-- java/lang/Cloneable -/
def k7 : Class := { plain "java/lang/Cloneable" (some 0) with
  accessFlags := 1537
  interfaces := #[]
  cf := some (fileOf pool7 2 #[] #[] 1537 4 #[] #[])
  fields := #[]
  methods := #[]
  instanceTypes := #[]
  staticTypes := #[]
  resolved := Array.replicate 8 none
  statics := none }

/-- the primitive byte -/
def k8 : Class := { plain "byte" none with kind := .primitive 'B', accessFlags := 0x411 }
/-- [B -/
def k9 : Class := { plain "[B" (some 0) with kind := .array 8 .byte, interfaces := #[7, 4], accessFlags := 1041 }

/-- the primitive int -/
def k10 : Class := { plain "int" none with kind := .primitive 'I', accessFlags := 0x411 }
/-- [I -/
def k11 : Class := { plain "[I" (some 0) with kind := .array 10 .int, interfaces := #[7, 4], accessFlags := 1041 }

def heap : Heap := #[{ cls := 6, slots := #[.ref 1, .ref 2, .ref 3, .ref 4, .ref 5, .ref 6, .null, .null], vm := .statics 6 },
  { cls := 6, slots := #[.null, .int 0, .int 0, .null], vm := .none },
  { cls := 6, slots := #[.null, .int 1, .int 0, .null], vm := .none },
  { cls := 6, slots := #[.null, .int 2, .int 0, .null], vm := .none },
  { cls := 6, slots := #[.null, .int 3, .int 0, .null], vm := .none },
  { cls := 6, slots := #[.null, .int 4, .int 0, .null], vm := .none },
  { cls := 6, slots := #[.null, .int 5, .int 0, .null], vm := .none }]
def classes : Array Class := #[k0, k1, k2, k3, k4, k5, k6, k7, k8, k9, k10, k11]
def interned : List (Array UInt16 × Addr) := []
def slotsUsed : Nat := 32
def theMethod : MethodId := ⟨1, 3⟩
def args0 : Array Value := #[.long 5]
def aboutOver (below : List Frame) : State where
  vm := { classes := classes, interned := interned.toArray }
  heap := heap
  slotsUsed := slotsUsed
  threads := #[{ frames := .invoking theMethod args0 :: below }]
def below0 : List Frame := [.native { method := ⟨0, 0⟩, args := #[] }]
def about1 : State := aboutOver below0
def p0 : Program := .bare "" "" ""
def e0 : Env := launch0.env 0 0 0
theorem w_frames : about1.frames = Frame.invoking theMethod args0 :: below0 := rfl
set_option maxRecDepth 65536 in
theorem w_args : argsFit about1.vm theMethod args0 = true := by decide +kernel
set_option maxRecDepth 65536 in
theorem w_heap : heapFits about1 = true := by decide +kernel
set_option maxRecDepth 65536 in
theorem w_runnable : about1.curStatus? = some .runnable := by decide +kernel
set_option maxRecDepth 65536 in
theorem w_alone : about1.alone = true := by decide +kernel
set_option maxRecDepth 65536 in
theorem w_named : about1.methodNamed? x = some theMethod := by decide +kernel
set_option maxRecDepth 65536 in
theorem w_hears : about1.hears theMethod below0 = true := by decide +kernel
set_option maxRecDepth 65536 in
theorem w_ripe : about1.ripe theMethod args0 below0 = true := by decide +kernel
theorem w_running : about1.status = .running := rfl
set_option maxRecDepth 65536 in
theorem w_room : about1.hasRoom e0.platform room_1 = true :=
  launch0.hasRoom_least _ room_1 (by decide +kernel) (by decide +kernel) (by decide +kernel) (by decide +kernel) (by decide +kernel) (by decide +kernel)
theorem allAtoms_all (ts : List Jvm.Cond) (a : Array Jvm.Value) (st : Jvm.State) : (allAtoms ts).before a st = ts.all (fun c => c.before a st) := by
  induction ts with
  | nil => rfl
  | cons c t ih =>
    show (Jvm.Cond.and c (allAtoms t)).before a st = _
    rw [Jvm.Cond.before_and, ih, List.all_cons]
def words1 : List Jvm.Cond := Jvm.Cond.code x code maxLocals ret :: tables_1
/-- a 'code' word, met by the world's own term for the bytes: nothing is compared byte by byte -/
theorem code_word {y : MethodName} {bytes : ByteArray} {mx : Nat} {rt : Option FieldType} {a : Array Value} {s : State} {m : MethodId} {meth : Method} {c : Code} (h1 : s.methodNamed? y = some m) (h2 : s.vm.method? m = some meth) (h3 : meth.code = some c) (h4 : c.code = bytes)
    (h5 : (c.maxLocals == mx && c.exceptionTable.isEmpty && decide (c.maxStack ≤ mostOperands) && decide (meth.sig.returnType = rt) && !meth.locks && decide (parseMethodDescriptor y.desc = some meth.sig)) = true) : (Jvm.Cond.code y bytes mx rt).before a s = true := by
  simp only [Bool.and_eq_true, beq_iff_eq, Bool.not_eq_true', decide_eq_true_eq] at h5
  obtain ⟨⟨⟨⟨⟨g1, g2⟩, g3⟩, g4⟩, g5⟩, g6⟩ := h5
  simp [Cond.before, Cond.holds, Cond.value, h1, h2, h3, h4, g1, g2, g3, g4, g5, g6]
def isCode : Jvm.Cond → Bool
  | .code _ _ _ _ => true
  | _ => false
theorem all_split {L : List Jvm.Cond} {P : Jvm.Cond → Bool} (h1 : L.all (fun c => isCode c || P c) = true) (h2 : ∀ c ∈ L.filter isCode, P c = true) : L.all P = true := by
  refine List.all_eq_true.mpr fun c hc => ?_
  have h := List.all_eq_true.mp h1 c hc
  rcases Bool.eq_false_or_eq_true (isCode c) with hi | hi
  · exact h2 c (List.mem_filter.mpr ⟨hc, hi⟩)
  · simpa [hi] using h
set_option maxRecDepth 65536 in
theorem w_c0 : (Jvm.Cond.code x code maxLocals ret).before args0 about1 = true := code_word (m := ⟨1, 3⟩) (meth := k1m3) (c := k1c3) (by decide +kernel) rfl rfl rfl (by decide +kernel)
set_option maxRecDepth 65536 in
theorem w_c1 : (Jvm.Cond.code ({ cls := "com/example/antigonish/antigonish/RelationHoldsPinLaw", name := "sign", desc := "(J)I" } : Jvm.MethodName) method_2_code (2 : Nat) (Option.some Jvm.ClassFile.FieldType.int)).before args0 about1 = true := code_word (m := ⟨1, 1⟩) (meth := k1m1) (c := k1c1) (by decide +kernel) rfl rfl rfl (by decide +kernel)
set_option maxRecDepth 65536 in
theorem w_c2 : (Jvm.Cond.code ({ cls := "com/example/antigonish/antigonish/RelationHoldsPinLaw", name := "agrees", desc := "(Lcom/example/antigonish/antigonish/Relation;IJI)Z" } : Jvm.MethodName) method_3_code (6 : Nat) (Option.some Jvm.ClassFile.FieldType.boolean)).before args0 about1 = true := code_word (m := ⟨1, 2⟩) (meth := k1m2) (c := k1c2) (by decide +kernel) rfl rfl rfl (by decide +kernel)
set_option maxRecDepth 65536 in
theorem w_c3 : (Jvm.Cond.code ({ cls := "com/example/antigonish/antigonish/Relation", name := "holds", desc := "(J)Z" } : Jvm.MethodName) prog_56_method_6_code (4 : Nat) (Option.some Jvm.ClassFile.FieldType.boolean)).before args0 about1 = true := code_word (m := ⟨6, 0⟩) (meth := k6m0) (c := k6c0) (by decide +kernel) rfl rfl rfl (by decide +kernel)
set_option maxRecDepth 65536 in
theorem w_c4 : (Jvm.Cond.code ({ cls := "java/lang/Enum", name := "ordinal", desc := "()I" } : Jvm.MethodName) jdk_37_method_2_code (1 : Nat) (Option.some Jvm.ClassFile.FieldType.int)).before args0 about1 = true := code_word (m := ⟨5, 0⟩) (meth := k5m0) (c := k5c0) (by decide +kernel) rfl rfl rfl (by decide +kernel)
def codes1 : List Jvm.Cond := [Jvm.Cond.code x code maxLocals ret, Jvm.Cond.code ({ cls := "com/example/antigonish/antigonish/RelationHoldsPinLaw", name := "sign", desc := "(J)I" } : Jvm.MethodName) method_2_code (2 : Nat) (Option.some Jvm.ClassFile.FieldType.int), Jvm.Cond.code ({ cls := "com/example/antigonish/antigonish/RelationHoldsPinLaw", name := "agrees", desc := "(Lcom/example/antigonish/antigonish/Relation;IJI)Z" } : Jvm.MethodName) method_3_code (6 : Nat) (Option.some Jvm.ClassFile.FieldType.boolean), Jvm.Cond.code ({ cls := "com/example/antigonish/antigonish/Relation", name := "holds", desc := "(J)Z" } : Jvm.MethodName) prog_56_method_6_code (4 : Nat) (Option.some Jvm.ClassFile.FieldType.boolean), Jvm.Cond.code ({ cls := "java/lang/Enum", name := "ordinal", desc := "()I" } : Jvm.MethodName) jdk_37_method_2_code (1 : Nat) (Option.some Jvm.ClassFile.FieldType.int)]
set_option maxRecDepth 65536 in
theorem codes_eq : words1.filter isCode = codes1 := rfl
theorem w_codes : ∀ c ∈ words1.filter isCode, c.before args0 about1 = true := by
  rw [codes_eq]
  intro c hc
  simp only [codes1, List.mem_cons, List.not_mem_nil, or_false] at hc
  rcases hc with rfl | rfl | rfl | rfl | rfl
  · exact w_c0
  · exact w_c1
  · exact w_c2
  · exact w_c3
  · exact w_c4
set_option maxRecDepth 65536 in
theorem w_t1 : (words1.take 24).all (fun c => isCode c || c.before args0 about1) = true := by decide +kernel
set_option maxRecDepth 65536 in
theorem w_t2 : (words1.drop 24).all (fun c => isCode c || c.before args0 about1) = true := by decide +kernel
theorem w_tables : (allAtoms (Jvm.Cond.code x code maxLocals ret :: tables_1)).before args0 about1 = true := by
  rw [allAtoms_all]
  show words1.all (fun c => c.before args0 about1) = true
  refine all_split ?_ w_codes
  rw [← List.take_append_drop 24 words1, List.all_append, w_t1, w_t2]
  rfl
set_option maxRecDepth 65536 in
theorem w_case : (Jvm.Cond.and given_1 narrow_1).before args0 about1 = true := by decide +kernel
theorem w_applies : (headSpec (Jvm.Cond.code x code maxLocals ret :: tables_1) room_1).applies x e0.platform about1 = true :=
  (Spec.applies_iff w_frames).mpr ⟨w_running, w_runnable, w_alone, w_named, w_hears, w_ripe, w_room, w_tables⟩
theorem atStart : AtStart classFile x code maxLocals ret World_1 tables_1 room_1 Calls_1 rest_1 Pre_1 launch0 p0 e0 about1 theMethod args0 below0 :=
  ⟨lists_1, trivial, launch0.admits_env _ _ _, launch0.least_env, fairChoices_fair.cas, fairChoices_fair.clock, w_frames, w_args, w_heap, w_applies, trivial, trivial, w_case⟩
end start1
theorem witness_1 : WitnessClaimed_1 := ⟨start1.p0, start1.e0, start1.about1, start1.theMethod, start1.args0, start1.below0, start1.atStart⟩
end Jvm.Pilot.@@N@@
