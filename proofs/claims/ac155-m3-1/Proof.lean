import JvmDerived
import JvmDerived.Pilot.@@N@@Statement
import JvmDerived.Pilot.@@N@@Code
set_option linter.unusedVariables false
set_option linter.unusedSimpArgs false
namespace Jvm.RoadKit
open Sem ClassFile Op Lib Jvm.Stand Jvm.Free Jvm.LawKit
section New
variable {p : Program} {l : Launch} {e : Env} {R : Room} {s : State} {m : MethodId} {args : Array Value} {below : List Frame} {meth : Method} {c : Code} {T : State} {locs : List Loc} {cells slots : Nat}
theorem retI (X : Stand p l e R s m args below meth c T locs cells slots) (hx : p.tables.exec = Jvm.exec) {pc : Nat} {Ls : Array Slot} {z : Int32} {rest : List Value} (hret : meth.sig.returnType = some .int) (hd : decode c.code pc = .ok (.ireturn, 1)) {fs : List Frame}
    (hl : ∀ (f : JFrame) (acts : List Action), f.method = m → f.locked = none → f.entered = [] → (doReturn e (T.setTop f) acts (some (.int z))).1 = T.setFrames fs) : Steps p.tables e below (T.setTop (mkF m pc Ls (.int z :: rest))) (T.setFrames fs) := by
  have hm' : T.vm.method? m = some meth := X.method'
  have hn : narrow .int (.int z) = .int z := rfl
  show Steps p.tables e below (T.setTop { method := m, pc := pc, locals := Ls, stack := _ :: rest, locked := none }) _
  jvm_step X.here [X.here.top, hx, hd, hm', hret, hn]
  first | (intro acts; rw [hl _ acts rfl rfl rfl]) | rw [hl _ _ rfl rfl rfl]
  exact Steps.refl _
end New
end Jvm.RoadKit
namespace Jvm.Pilot.@@N@@
open Jvm Jvm.ClassFile Sem Op Lib Jvm.Free Jvm.Stand Jvm.LawKit Jvm.RoadKit Bundle Jvm.Pilot.@@N@@.Jvm.D
theorem own_nb {P : Prop} [Decidable P] : nar .boolean (if P then (1 : Int32) else (0 : Int32)) = if P then (1 : Int32) else (0 : Int32) := by split <;> rfl
theorem own_nb2 {z : Int32} (h : z = 0 ∨ z = 1) : nar .boolean z = z := by rcases h with rfl | rfl <;> rfl
theorem own_01 {P : Prop} [Decidable P] : (if P then (1 : Int32) else (0 : Int32)) = 0 ∨ (if P then (1 : Int32) else (0 : Int32)) = 1 := by split <;> simp
theorem own_iv {a b : Int32} (h : a = b) : some (Value.int a) = some (Value.int b) := by rw [h]
theorem own_lv {a b : Int64} (h : a = b) : some (Value.long a) = some (Value.long b) := by rw [h]
theorem own_n01 {P Q : Prop} [Decidable P] [Decidable Q] : (if P then (if Q then (1 : Int32) else (0 : Int32)) else (1 : Int32)) = 0 ∨ (if P then (if Q then (1 : Int32) else (0 : Int32)) else (1 : Int32)) = 1 := by split <;> (try split) <;> simp
theorem own_d1_0 : decode jdk_29_method_69_code 0 = .ok (.iload_n 0, 1) := by decide +kernel
theorem own_d1_1 : decode jdk_29_method_69_code 1 = .ok (.iload_n 1, 1) := by decide +kernel
theorem own_d1_2 : decode jdk_29_method_69_code 2 = .ok (.if_icmp .gt 7, 3) := by decide +kernel
theorem own_d1_5 : decode jdk_29_method_69_code 5 = .ok (.iload_n 0, 1) := by decide +kernel
theorem own_d1_6 : decode jdk_29_method_69_code 6 = .ok (.goto 4, 3) := by decide +kernel
theorem own_d1_9 : decode jdk_29_method_69_code 9 = .ok (.iload_n 1, 1) := by decide +kernel
theorem own_d1_10 : decode jdk_29_method_69_code 10 = .ok (.ireturn, 1) := by decide +kernel
theorem own_ef1 (m : MethodId) (x0 : Int32) (x1 : Int32) : entryFrame m #[(.int x0), (.int x1)] 2 = mkF m 0 #[.val (.int x0), .val (.int x1)] [] := by first | (simp [entryFrame, mkF, argsToLocals, Value.category]; done) | rfl
def own_Q_own_min (Z : State) (u : Int32) (w : Int32) (h0 : Heap) (n0 : Nat) (v : Option Value) (h : Heap) (L : List Loc) : Prop := v = some (.int (if w < u then w else u)) ∧ Fr n0 L ∧ h = h0
set_option maxRecDepth 65536 in
set_option maxHeartbeats 40000000 in
theorem own_min (l : Launch) (Z : State) (a0 : Array Value) (hw : ∀ d ∈ tables_1, d.before a0 Z = true) (ws : List Jvm.Cond) (u : Int32) (w : Int32) (h0 : Heap) (n0 : Nat) (Z0 : n0 ≤ h0.size) :
    MetFree l (⟨"java/lang/Math", "min", "(II)I"⟩ : MethodName) (head1 (Jvm.Cond.code (⟨"java/lang/Math", "min", "(II)I"⟩ : MethodName) jdk_29_method_69_code 2 (some .int) :: ws) ({ frames := 0, cells := 0, slots := 0, locals := 0 } : Room)) (fun as_ U => as_ = #[(.int u), (.int w)] ∧ Z.Warmed39 U.vm ∧ U.heap = h0) (fun _ _ _ _ _ => True) (fun _ U o U' => ∃ v L, o = .returned v ∧ own_Q_own_min Z u w h0 n0 v U'.heap L ∧ FrameEnd U o U' L ({ frames := 0, cells := 0, slots := 0, locals := 0 } : Room).cells ({ frames := 0, cells := 0, slots := 0, locals := 0 } : Room).slots) := by
  refine MetFree.of_bodySF (Jvm.Free.JP.mathPlain rfl (by decide +kernel)) hisR ?_
  intro p e s m args below meth c s₁ Bd hml0 hP hK
  obtain ⟨rfl, hZ, hh⟩ := hP
  have hx := Bd.exec
  have hby := Bd.bytes
  have hml : c.maxLocals = 2 := hml0
  have hown : s.vm.findClass "java/lang/Math" = some m.cls := findClass_of_methodNamed Bd.named
  have hnm := (name_of_methodNamed Bd.named Bd.method).1
  have X0 : Stand p l e ({ frames := 0, cells := 0, slots := 0, locals := 0 } : Room) s m #[(.int u), (.int w)] below meth c s₁ [] 0 0 := Stand.of_body Bd
  have e0 : s₁.heap = h0 := by rw [← hh, Bd.state]; rfl
  have N0 := Fr.nil n0
  have pre0 : ∀ t, Steps p.tables e below (s₁.setTop (mkF m 0 #[.val (.int u), .val (.int w)] [])) t → Steps p.tables e below (s₁.setTop (entryFrame m #[(.int u), (.int w)] 2)) t := fun t k => castTop (own_ef1 m u w) k
  have pre1 : ∀ t, Steps p.tables e below (s₁.setTop (mkF m 2 #[.val (.int u), .val (.int w)] [(.int w), (.int u)])) t → Steps p.tables e below (s₁.setTop (entryFrame m #[(.int u), (.int w)] 2)) t := fun t k => pre0 t (by
    show Steps p.tables e below (s₁.setTop (mkF m 0 #[.val (.int u), .val (.int w)] [])) _
    refine XS.iloadN X0.here hx rfl (hb hby own_d1_0) rfl ?_
    show Steps p.tables e below (s₁.setTop (mkF m 1 #[.val (.int u), .val (.int w)] [(.int u)])) _
    refine XS.iloadN X0.here hx rfl (hb hby own_d1_1) rfl ?_
    show Steps p.tables e below (s₁.setTop (mkF m 2 #[.val (.int u), .val (.int w)] [(.int w), (.int u)])) _
    exact k)
  by_cases hc2 : w < u
  · skip
    obtain ⟨fs, hr, hrun, hended, hW, hsame⟩ := X0.leave (v := some (.int w)) (fun h => by rw [Bd.returns] at h; cases h)
    refine ⟨_, _, pre1 _ ?_, hrun, hended, _, _, rfl, ?_, ⟨_, rfl⟩, hW, hsame.mono (by decide) (by decide)⟩
    · refine XS.icmpYes X0.here hx rfl (pc0 := 2) (pc' := 9) rfl (hb hby own_d1_2) rfl (tlt hc2).2.2.1 (by decide) (by decide) ?_
      show Steps p.tables e below (s₁.setTop (mkF m 9 #[.val (.int u), .val (.int w)] [])) _
      refine XS.iloadN X0.here hx rfl (hb hby own_d1_9) rfl ?_
      show Steps p.tables e below (s₁.setTop (mkF m 10 #[.val (.int u), .val (.int w)] [(.int w)])) _
      exact retI X0 hx Bd.returns (hb hby own_d1_10) hr
    · show own_Q_own_min Z u w h0 n0 _ s₁.heap _
      rw [e0]
      exact ⟨by simp [hc2], N0, rfl⟩
  · skip
    obtain ⟨fs, hr, hrun, hended, hW, hsame⟩ := X0.leave (v := some (.int u)) (fun h => by rw [Bd.returns] at h; cases h)
    refine ⟨_, _, pre1 _ ?_, hrun, hended, _, _, rfl, ?_, ⟨_, rfl⟩, hW, hsame.mono (by decide) (by decide)⟩
    · refine XS.icmpNo X0.here hx rfl (hb hby own_d1_2) rfl (flt hc2).2.2.1 ?_
      show Steps p.tables e below (s₁.setTop (mkF m 5 #[.val (.int u), .val (.int w)] [])) _
      refine XS.iloadN X0.here hx rfl (hb hby own_d1_5) rfl ?_
      show Steps p.tables e below (s₁.setTop (mkF m 6 #[.val (.int u), .val (.int w)] [(.int u)])) _
      refine XS.goto X0.here hx rfl (pc0 := 6) (pc' := 10) rfl (hb hby own_d1_6) (by decide) (by decide) ?_
      show Steps p.tables e below (s₁.setTop (mkF m 10 #[.val (.int u), .val (.int w)] [(.int u)])) _
      exact retI X0 hx Bd.returns (hb hby own_d1_10) hr
    · show own_Q_own_min Z u w h0 n0 _ s₁.heap _
      rw [e0]
      exact ⟨by simp [hc2], N0, rfl⟩
theorem own_d2_0 : decode prog_25_method_1_code 0 = .ok (.aload_n 0, 1) := by decide +kernel
theorem own_d2_1 : decode prog_25_method_1_code 1 = .ok (.invokespecial 1, 3) := by decide +kernel
theorem own_d2_4 : decode prog_25_method_1_code 4 = .ok (.aload_n 0, 1) := by decide +kernel
theorem own_d2_5 : decode prog_25_method_1_code 5 = .ok (.iload_n 1, 1) := by decide +kernel
theorem own_d2_6 : decode prog_25_method_1_code 6 = .ok (.putfield 7, 3) := by decide +kernel
theorem own_d2_9 : decode prog_25_method_1_code 9 = .ok (.aload_n 0, 1) := by decide +kernel
theorem own_d2_10 : decode prog_25_method_1_code 10 = .ok (.iload_n 2, 1) := by decide +kernel
theorem own_d2_11 : decode prog_25_method_1_code 11 = .ok (.putfield 13, 3) := by decide +kernel
theorem own_d2_14 : decode prog_25_method_1_code 14 = .ok (.return_, 1) := by decide +kernel
theorem own_pn0 : plainName "com/example/millrace/millrace/engine/Arrivals" = true := by first | (simp [plainName, overriddenIn]; done) | decide +kernel
theorem own_ef2 (m : MethodId) (x0 : Addr) (x1 : Int32) (x2 : Int32) : entryFrame m #[(.ref x0), (.int x1), (.int x2)] 3 = mkF m 0 #[.val (.ref x0), .val (.int x1), .val (.int x2)] [] := by first | (simp [entryFrame, mkF, argsToLocals, Value.category]; done) | rfl
def own_Q_own_init (Z : State) (a : Addr) (c1 : Int32) (t1 : Int32) (h0 : Heap) (n0 : Nat) (v : Option Value) (h : Heap) (L : List Loc) : Prop := v = none ∧ Fr n0 L ∧ Keep h0 h [a] ∧ Exa Z h a "com/example/millrace/millrace/engine/Arrivals" ∧ Fld Z h a "com/example/millrace/millrace/engine/Arrivals" "count" "I" (.int c1) ∧ Fld Z h a "com/example/millrace/millrace/engine/Arrivals" "live" "Z" (.int t1)
set_option maxRecDepth 65536 in
set_option maxHeartbeats 40000000 in
theorem own_init (l : Launch) (Z : State) (a0 : Array Value) (hw : ∀ d ∈ tables_1, d.before a0 Z = true) (ws : List Jvm.Cond) (a : Addr) (c1 : Int32) (t1 : Int32) (h0 : Heap) (n0 : Nat) (Z0 : n0 ≤ h0.size) (E : Exa Z h0 a "com/example/millrace/millrace/engine/Arrivals") (Fc : Fld Z h0 a "com/example/millrace/millrace/engine/Arrivals" "count" "I" (.int (0 : Int32))) (Fl : Fld Z h0 a "com/example/millrace/millrace/engine/Arrivals" "live" "Z" (.int (0 : Int32))) (g : n0 ≤ a) (h01 : t1 = 0 ∨ t1 = 1) :
    MetFree l (⟨"com/example/millrace/millrace/engine/Arrivals", "<init>", "(IZ)V"⟩ : MethodName) (head1 (Jvm.Cond.code (⟨"com/example/millrace/millrace/engine/Arrivals", "<init>", "(IZ)V"⟩ : MethodName) prog_25_method_1_code 3 none :: ws) ({ frames := 1, cells := 0, slots := 0, locals := 12 } : Room)) (fun as_ U => as_ = #[(.ref a), (.int c1), (.int t1)] ∧ Z.Warmed39 U.vm ∧ U.heap = h0) (fun _ _ _ _ _ => True) (fun _ U o U' => ∃ v L, o = .returned v ∧ own_Q_own_init Z a c1 t1 h0 n0 v U'.heap L ∧ FrameEnd U o U' L ({ frames := 1, cells := 0, slots := 0, locals := 12 } : Room).cells ({ frames := 1, cells := 0, slots := 0, locals := 12 } : Room).slots) := by
  refine MetFree.of_bodySF (plainFor_of_name own_pn0) hisR ?_
  intro p e s m args below meth c s₁ Bd hml0 hP hK
  obtain ⟨rfl, hZ, hh⟩ := hP
  have hx := Bd.exec
  have hby := Bd.bytes
  have hml : c.maxLocals = 3 := hml0
  have hown : s.vm.findClass "com/example/millrace/millrace/engine/Arrivals" = some m.cls := findClass_of_methodNamed Bd.named
  have hnm := (name_of_methodNamed Bd.named Bd.method).1
  have X0 : Stand p l e ({ frames := 1, cells := 0, slots := 0, locals := 12 } : Room) s m #[(.ref a), (.int c1), (.int t1)] below meth c s₁ [] 0 0 := Stand.of_body Bd
  have e0 : s₁.heap = h0 := by rw [← hh, Bd.state]; rfl
  have N0 := Fr.nil n0
  have pre0 : ∀ t, Steps p.tables e below (s₁.setTop (mkF m 0 #[.val (.ref a), .val (.int c1), .val (.int t1)] [])) t → Steps p.tables e below (s₁.setTop (entryFrame m #[(.ref a), (.int c1), (.int t1)] 3)) t := fun t k => castTop (own_ef2 m a c1 t1) k
  have KP := Keep.refl h0 ([a] : List Addr)
  obtain ⟨T1, X1, e1, st1⟩ := initO X0 hx hZ hown (hw _ (List.mem_of_getElem? (i := 12) rfl)) (hw _ (List.mem_of_getElem? (i := 13) rfl)) (hw _ (List.mem_of_getElem? (i := 14) rfl)) e0 (g := (mkF m 1 #[.val (.ref a), .val (.int c1), .val (.int t1)] [(.ref a)])) rfl (by rw [hml]; rfl) rfl (hb hby own_d2_1) (by decide) (W := 0) (by show 2 * 0 + _ ≤ _; exact Nat.le_of_eq rfl) (by decide)
  obtain ⟨T2, h2, X2, e2, W2, st2⟩ := putF X1 hx hZ hown (host := "") (Or.inl (hw _ (List.mem_of_getElem? (i := 15) rfl))) Via.refl e1 Fc E (Or.inr ⟨(hw _ (List.mem_of_getElem? (i := 16) rfl)), rfl, hnm⟩) (hw _ (List.mem_of_getElem? (i := 7) rfl)) (ty := .int) (by decide) rfl rfl (g := (mkF m 6 #[.val (.ref a), .val (.int c1), .val (.int t1)] [(.int c1), (.ref a)])) rfl rfl (hb hby own_d2_6)
  have E := E.wr W2
  have Fl := Fl.other W2 (Or.inr (slot_ne (Or.inr (hw _ (List.mem_of_getElem? (i := 18) rfl))) (Or.inr (hw _ (List.mem_of_getElem? (i := 16) rfl))) (by decide) (t := .boolean) (t' := .int) (by decide) (by decide)))
  have Z3 : n0 ≤ h2.size := Nat.le_trans Z0 (Keep.of_wr W2).1
  have KP := KP.wr W2 (Or.inl (List.mem_of_getElem? (i := 0) rfl))
  have Fc := Fc.same W2
  have N2 := Fr.snoc X2 N0 g
  obtain ⟨T4, h4, X4, e4, W4, st4⟩ := putFN X2 hx hZ hown (hw _ (List.mem_of_getElem? (i := 17) rfl)) Via.refl e2 Fl E (Or.inr ⟨(hw _ (List.mem_of_getElem? (i := 18) rfl)), rfl, hnm⟩) (hw _ (List.mem_of_getElem? (i := 7) rfl)) (ty := .boolean) (v' := .int (nar .boolean t1)) (by decide) rfl (fits_nar_bool _) (g := (mkF m 11 #[.val (.ref a), .val (.int c1), .val (.int t1)] [(.int t1), (.ref a)])) rfl rfl (hb hby own_d2_11)
  rw [(own_nb2 h01)] at W4
  have E := E.wr W4
  have Fc := Fc.other W4 (Or.inr (slot_ne (Or.inr (hw _ (List.mem_of_getElem? (i := 16) rfl))) (Or.inr (hw _ (List.mem_of_getElem? (i := 18) rfl))) (by decide) (t := .int) (t' := .boolean) (by decide) (by decide)))
  have Z5 : n0 ≤ h4.size := Nat.le_trans Z3 (Keep.of_wr W4).1
  have KP := KP.wr W4 (Or.inl (List.mem_of_getElem? (i := 0) rfl))
  have Fl := Fl.same W4
  have N4 := Fr.snoc X4 N2 g
  obtain ⟨fs, hr, hrun, hended, hW, hsame⟩ := X4.leave (v := none) (fun _ => rfl)
  refine ⟨_, _, pre0 _ ?_, hrun, hended, _, _, rfl, ?_, ⟨_, rfl⟩, hW, hsame.mono (by decide) (by decide)⟩
  · show Steps p.tables e below (s₁.setTop (mkF m 0 #[.val (.ref a), .val (.int c1), .val (.int t1)] [])) _
    refine XS.aloadN X0.here hx rfl (hb hby own_d2_0) rfl rfl ?_
    show Steps p.tables e below (s₁.setTop (mkF m 1 #[.val (.ref a), .val (.int c1), .val (.int t1)] [(.ref a)])) _
    refine st1 _ ?_
    show Steps p.tables e below (T1.setTop (mkF m 4 #[.val (.ref a), .val (.int c1), .val (.int t1)] [])) _
    refine XS.aloadN X1.here hx rfl (hb hby own_d2_4) rfl rfl ?_
    show Steps p.tables e below (T1.setTop (mkF m 5 #[.val (.ref a), .val (.int c1), .val (.int t1)] [(.ref a)])) _
    refine XS.iloadN X1.here hx rfl (hb hby own_d2_5) rfl ?_
    show Steps p.tables e below (T1.setTop (mkF m 6 #[.val (.ref a), .val (.int c1), .val (.int t1)] [(.int c1), (.ref a)])) _
    refine st2 _ ?_
    show Steps p.tables e below (T2.setTop (mkF m 9 #[.val (.ref a), .val (.int c1), .val (.int t1)] [])) _
    refine XS.aloadN X2.here hx rfl (hb hby own_d2_9) rfl rfl ?_
    show Steps p.tables e below (T2.setTop (mkF m 10 #[.val (.ref a), .val (.int c1), .val (.int t1)] [(.ref a)])) _
    refine XS.iloadN X2.here hx rfl (hb hby own_d2_10) rfl ?_
    show Steps p.tables e below (T2.setTop (mkF m 11 #[.val (.ref a), .val (.int c1), .val (.int t1)] [(.int t1), (.ref a)])) _
    refine st4 _ ?_
    show Steps p.tables e below (T4.setTop (mkF m 14 #[.val (.ref a), .val (.int c1), .val (.int t1)] [])) _
    exact X4.returnOut hx Bd.returns (hb hby own_d2_14) hr
  · show own_Q_own_init Z a c1 t1 h0 n0 _ T4.heap _
    rw [e4]
    exact ⟨rfl, N4, KP, E, Fc, Fl⟩
theorem own_pd0 : parseMethodDescriptor "(IZ)V" = some ⟨[.int, .boolean], none⟩ := by decide +kernel
theorem own_d4_0 : decode prog_25_method_4_code 0 = .ok (.new 8, 3) := by decide +kernel
theorem own_d4_3 : decode prog_25_method_4_code 3 = .ok (.dup, 1) := by decide +kernel
theorem own_d4_4 : decode prog_25_method_4_code 4 = .ok (.aload_n 0, 1) := by decide +kernel
theorem own_d4_5 : decode prog_25_method_4_code 5 = .ok (.getfield 7, 3) := by decide +kernel
theorem own_d4_8 : decode prog_25_method_4_code 8 = .ok (.iconst 1, 1) := by decide +kernel
theorem own_d4_9 : decode prog_25_method_4_code 9 = .ok (.iadd, 1) := by decide +kernel
theorem own_d4_10 : decode prog_25_method_4_code 10 = .ok (.aload_n 0, 1) := by decide +kernel
theorem own_d4_11 : decode prog_25_method_4_code 11 = .ok (.getfield 13, 3) := by decide +kernel
theorem own_d4_14 : decode prog_25_method_4_code 14 = .ok (.ifCond .ne 7, 3) := by decide +kernel
theorem own_d4_17 : decode prog_25_method_4_code 17 = .ok (.iload_n 1, 1) := by decide +kernel
theorem own_d4_18 : decode prog_25_method_4_code 18 = .ok (.ifCond .eq 7, 3) := by decide +kernel
theorem own_d4_21 : decode prog_25_method_4_code 21 = .ok (.iconst 1, 1) := by decide +kernel
theorem own_d4_22 : decode prog_25_method_4_code 22 = .ok (.goto 4, 3) := by decide +kernel
theorem own_d4_25 : decode prog_25_method_4_code 25 = .ok (.iconst 0, 1) := by decide +kernel
theorem own_d4_26 : decode prog_25_method_4_code 26 = .ok (.invokespecial 17, 3) := by decide +kernel
theorem own_d4_29 : decode prog_25_method_4_code 29 = .ok (.areturn, 1) := by decide +kernel
theorem own_ef4 (m : MethodId) (x0 : Addr) (x1 : Int32) : entryFrame m #[(.ref x0), (.int x1)] 2 = mkF m 0 #[.val (.ref x0), .val (.int x1)] [] := by first | (simp [entryFrame, mkF, argsToLocals, Value.category]; done) | rfl
def own_Q_own_with (Z : State) (a : Addr) (t1 : Int32) (c1 : Int32) (lv : Int32) (h0 : Heap) (n0 : Nat) (v : Option Value) (h : Heap) (L : List Loc) : Prop := ∃ b : Addr, v = some (.ref b) ∧ Fr n0 L ∧ Keep h0 h [] ∧ Exa Z h b "com/example/millrace/millrace/engine/Arrivals" ∧ Fld Z h b "com/example/millrace/millrace/engine/Arrivals" "count" "I" (.int (c1 + (1 : Int32))) ∧ Fld Z h b "com/example/millrace/millrace/engine/Arrivals" "live" "Z" (.int (if lv = (0 : Int32) then (if ¬ (t1 = (0 : Int32)) then (1 : Int32) else (0 : Int32)) else (1 : Int32)))
set_option maxRecDepth 65536 in
set_option maxHeartbeats 40000000 in
theorem own_with (l : Launch) (Z : State) (a0 : Array Value) (hw : ∀ d ∈ tables_1, d.before a0 Z = true) (ws : List Jvm.Cond) (a : Addr) (t1 : Int32) (c1 : Int32) (lv : Int32) (h0 : Heap) (n0 : Nat) (Z0 : n0 ≤ h0.size) (E : Exa Z h0 a "com/example/millrace/millrace/engine/Arrivals") (Fc : Fld Z h0 a "com/example/millrace/millrace/engine/Arrivals" "count" "I" (.int c1)) (Fl : Fld Z h0 a "com/example/millrace/millrace/engine/Arrivals" "live" "Z" (.int lv)) :
    MetFree l (⟨"com/example/millrace/millrace/engine/Arrivals", "with", "(Z)Lcom/example/millrace/millrace/engine/Arrivals;"⟩ : MethodName) (head1 (Jvm.Cond.code (⟨"com/example/millrace/millrace/engine/Arrivals", "with", "(Z)Lcom/example/millrace/millrace/engine/Arrivals;"⟩ : MethodName) prog_25_method_4_code 2 (some (.object "com/example/millrace/millrace/engine/Arrivals")) :: ws) ({ frames := 2, cells := 1, slots := 2, locals := 27 } : Room)) (fun as_ U => as_ = #[(.ref a), (.int t1)] ∧ Z.Warmed39 U.vm ∧ U.heap = h0) (fun _ _ _ _ _ => True) (fun _ U o U' => ∃ v L, o = .returned v ∧ own_Q_own_with Z a t1 c1 lv h0 n0 v U'.heap L ∧ FrameEnd U o U' L ({ frames := 2, cells := 1, slots := 2, locals := 27 } : Room).cells ({ frames := 2, cells := 1, slots := 2, locals := 27 } : Room).slots) := by
  refine MetFree.of_bodySF (plainFor_of_name own_pn0) hisR ?_
  intro p e s m args below meth c s₁ Bd hml0 hP hK
  obtain ⟨rfl, hZ, hh⟩ := hP
  have hx := Bd.exec
  have hby := Bd.bytes
  have hml : c.maxLocals = 2 := hml0
  have hown : s.vm.findClass "com/example/millrace/millrace/engine/Arrivals" = some m.cls := findClass_of_methodNamed Bd.named
  have hnm := (name_of_methodNamed Bd.named Bd.method).1
  have X0 : Stand p l e ({ frames := 2, cells := 1, slots := 2, locals := 27 } : Room) s m #[(.ref a), (.int t1)] below meth c s₁ [] 0 0 := Stand.of_body Bd
  have e0 : s₁.heap = h0 := by rw [← hh, Bd.state]; rfl
  have N0 := Fr.nil n0
  have pre0 : ∀ t, Steps p.tables e below (s₁.setTop (mkF m 0 #[.val (.ref a), .val (.int t1)] [])) t → Steps p.tables e below (s₁.setTop (entryFrame m #[(.ref a), (.int t1)] 2)) t := fun t k => castTop (own_ef4 m a t1) k
  have KP := Keep.refl h0 ([] : List Addr)
  obtain ⟨T1, h1, X1, e1, E1, A1, D1, -, st1⟩ := newO X0 hx hZ hown (hw _ (List.mem_of_getElem? (i := 24) rfl)) (hw _ (List.mem_of_getElem? (i := 7) rfl)) (hw _ (List.mem_of_getElem? (i := 8) rfl)) e0 (g := (mkF m 0 #[.val (.ref a), .val (.int t1)] [])) rfl (hb hby own_d4_0) (by decide) (by decide)
  obtain ⟨b1, g1⟩ : ∃ z, z = h0.size := ⟨_, rfl⟩
  rw [← g1] at A1 D1 st1
  have g_b1 : n0 ≤ b1 := Nat.le_trans Z0 (Nat.le_of_eq g1.symm)
  have sz_b1 : h0.size ≤ b1 := Nat.le_trans KP.1 (Nat.le_of_eq g1.symm)
  have ne_a_b1 : a ≠ b1 := Nat.ne_of_lt (Nat.lt_of_lt_of_le E.lt (Nat.le_of_eq g1.symm))
  have E := E.ext E1
  have Fc := Fc.ext E1
  have Fl := Fl.ext E1
  have Z2 : n0 ≤ h1.size := Nat.le_trans Z0 E1.1
  have KP := KP.ext E1
  have F_count_b1 : Fld Z h1 b1 "com/example/millrace/millrace/engine/Arrivals" "count" "I" (.int (0 : Int32)) := D1 (Or.inr (hw _ (List.mem_of_getElem? (i := 16) rfl))) (ty := .int) (by decide)
  have F_live_b1 : Fld Z h1 b1 "com/example/millrace/millrace/engine/Arrivals" "live" "Z" (.int (0 : Int32)) := D1 (Or.inr (hw _ (List.mem_of_getElem? (i := 18) rfl))) (ty := .boolean) (by decide)
  have E_b1 := A1
  obtain ⟨T3, X3, e3, st3⟩ := getF X1 hx hZ hown (host := "") (Or.inl (hw _ (List.mem_of_getElem? (i := 15) rfl))) Via.refl e1 Fc (g := (mkF m 5 #[.val (.ref a), .val (.int t1)] [(.ref a), (.ref b1), (.ref b1)])) rfl rfl (hb hby own_d4_5)
  obtain ⟨T4, X4, e4, st4⟩ := getF X3 hx hZ hown (host := "") (Or.inl (hw _ (List.mem_of_getElem? (i := 17) rfl))) Via.refl e3 Fl (g := (mkF m 11 #[.val (.ref a), .val (.int t1)] [(.ref a), (.int (c1 + (1 : Int32))), (.ref b1), (.ref b1)])) rfl rfl (hb hby own_d4_11)
  have pre7 : ∀ t, Steps p.tables e below (T4.setTop (mkF m 26 #[.val (.ref a), .val (.int t1)] [(.int (if lv = (0 : Int32) then (if ¬ (t1 = (0 : Int32)) then (1 : Int32) else (0 : Int32)) else (1 : Int32))), (.int (c1 + (1 : Int32))), (.ref b1), (.ref b1)])) t → Steps p.tables e below (s₁.setTop (entryFrame m #[(.ref a), (.int t1)] 2)) t := fun t k => pre0 t (by
    show Steps p.tables e below (s₁.setTop (mkF m 0 #[.val (.ref a), .val (.int t1)] [])) _
    refine st1 _ ?_
    show Steps p.tables e below (T1.setTop (mkF m 3 #[.val (.ref a), .val (.int t1)] [(.ref b1)])) _
    refine XS.dup X1.here hx rfl (hb hby own_d4_3) rfl rfl ?_
    show Steps p.tables e below (T1.setTop (mkF m 4 #[.val (.ref a), .val (.int t1)] [(.ref b1), (.ref b1)])) _
    refine XS.aloadN X1.here hx rfl (hb hby own_d4_4) rfl rfl ?_
    show Steps p.tables e below (T1.setTop (mkF m 5 #[.val (.ref a), .val (.int t1)] [(.ref a), (.ref b1), (.ref b1)])) _
    refine st3 _ ?_
    show Steps p.tables e below (T3.setTop (mkF m 8 #[.val (.ref a), .val (.int t1)] [(.int c1), (.ref b1), (.ref b1)])) _
    refine XS.iconst X3.here hx rfl (hb hby own_d4_8) ?_
    show Steps p.tables e below (T3.setTop (mkF m 9 #[.val (.ref a), .val (.int t1)] [(.int (1 : Int32)), (.int c1), (.ref b1), (.ref b1)])) _
    refine XS.iadd X3.here hx rfl (hb hby own_d4_9) rfl ?_
    show Steps p.tables e below (T3.setTop (mkF m 10 #[.val (.ref a), .val (.int t1)] [(.int (c1 + (1 : Int32))), (.ref b1), (.ref b1)])) _
    refine XS.aloadN X3.here hx rfl (hb hby own_d4_10) rfl rfl ?_
    show Steps p.tables e below (T3.setTop (mkF m 11 #[.val (.ref a), .val (.int t1)] [(.ref a), (.int (c1 + (1 : Int32))), (.ref b1), (.ref b1)])) _
    refine st4 _ ?_
    show Steps p.tables e below (T4.setTop (mkF m 14 #[.val (.ref a), .val (.int t1)] [(.int lv), (.int (c1 + (1 : Int32))), (.ref b1), (.ref b1)])) _
    by_cases hc5 : lv = (0 : Int32)
    · skip
      refine XS.ifNo X4.here hx rfl (hb hby own_d4_14) rfl ((if0 _ _).trans (teq hc5).2) ?_
      show Steps p.tables e below (T4.setTop (mkF m 17 #[.val (.ref a), .val (.int t1)] [(.int (c1 + (1 : Int32))), (.ref b1), (.ref b1)])) _
      refine XS.iloadN X4.here hx rfl (hb hby own_d4_17) rfl ?_
      show Steps p.tables e below (T4.setTop (mkF m 18 #[.val (.ref a), .val (.int t1)] [(.int t1), (.int (c1 + (1 : Int32))), (.ref b1), (.ref b1)])) _
      by_cases hc6 : t1 = (0 : Int32)
      · skip
        refine XS.ifYes X4.here hx rfl (pc0 := 18) (pc' := 25) rfl (hb hby own_d4_18) rfl ((if0 _ _).trans (teq hc6).1) (by decide) (by decide) ?_
        show Steps p.tables e below (T4.setTop (mkF m 25 #[.val (.ref a), .val (.int t1)] [(.int (c1 + (1 : Int32))), (.ref b1), (.ref b1)])) _
        refine XS.iconst X4.here hx rfl (hb hby own_d4_25) ?_
        exact castTop (congrArg (fun z_ => (mkF m 26 #[.val (.ref a), .val (.int t1)] [(.int z_), (.int (c1 + (1 : Int32))), (.ref b1), (.ref b1)])) (show (0 : Int32) = (if lv = (0 : Int32) then (if ¬ (t1 = (0 : Int32)) then (1 : Int32) else (0 : Int32)) else (1 : Int32)) from by rw [if_pos hc5, if_neg (not_not_intro hc6)])) k
      · skip
        refine XS.ifNo X4.here hx rfl (hb hby own_d4_18) rfl ((if0 _ _).trans (feq hc6).1) ?_
        show Steps p.tables e below (T4.setTop (mkF m 21 #[.val (.ref a), .val (.int t1)] [(.int (c1 + (1 : Int32))), (.ref b1), (.ref b1)])) _
        refine XS.iconst X4.here hx rfl (hb hby own_d4_21) ?_
        show Steps p.tables e below (T4.setTop (mkF m 22 #[.val (.ref a), .val (.int t1)] [(.int (1 : Int32)), (.int (c1 + (1 : Int32))), (.ref b1), (.ref b1)])) _
        refine XS.goto X4.here hx rfl (pc0 := 22) (pc' := 26) rfl (hb hby own_d4_22) (by decide) (by decide) ?_
        exact castTop (congrArg (fun z_ => (mkF m 26 #[.val (.ref a), .val (.int t1)] [(.int z_), (.int (c1 + (1 : Int32))), (.ref b1), (.ref b1)])) (show (1 : Int32) = (if lv = (0 : Int32) then (if ¬ (t1 = (0 : Int32)) then (1 : Int32) else (0 : Int32)) else (1 : Int32)) from by rw [if_pos hc5, if_pos hc6])) k
    · skip
      refine XS.ifYes X4.here hx rfl (pc0 := 14) (pc' := 21) rfl (hb hby own_d4_14) rfl ((if0 _ _).trans (feq hc5).2) (by decide) (by decide) ?_
      show Steps p.tables e below (T4.setTop (mkF m 21 #[.val (.ref a), .val (.int t1)] [(.int (c1 + (1 : Int32))), (.ref b1), (.ref b1)])) _
      refine XS.iconst X4.here hx rfl (hb hby own_d4_21) ?_
      show Steps p.tables e below (T4.setTop (mkF m 22 #[.val (.ref a), .val (.int t1)] [(.int (1 : Int32)), (.int (c1 + (1 : Int32))), (.ref b1), (.ref b1)])) _
      refine XS.goto X4.here hx rfl (pc0 := 22) (pc' := 26) rfl (hb hby own_d4_22) (by decide) (by decide) ?_
      exact castTop (congrArg (fun z_ => (mkF m 26 #[.val (.ref a), .val (.int t1)] [(.int z_), (.int (c1 + (1 : Int32))), (.ref b1), (.ref b1)])) (show (1 : Int32) = (if lv = (0 : Int32) then (if ¬ (t1 = (0 : Int32)) then (1 : Int32) else (0 : Int32)) else (1 : Int32)) from by rw [if_neg hc5])) k)
  obtain ⟨_, _, ⟨T8, L8, k8, n8⟩, -, X8, ⟨Lc8, hQ8, l8, y8, z8⟩, st8⟩ := X4.specialBack hx (y := (⟨"com/example/millrace/millrace/engine/Arrivals", "<init>", "(IZ)V"⟩ : MethodName)) rfl hown (mvT hZ (hw _ (List.mem_of_getElem? (i := 25) rfl))) (mvT hZ (hw _ (List.mem_of_getElem? (i := 10) rfl))) (mvT hZ (hw _ (List.mem_of_getElem? (i := 11) rfl))) (by decide) (backOf (W := 1) (own_init l Z a0 hw [] b1 (c1 + (1 : Int32)) (if lv = (0 : Int32) then (if ¬ (t1 = (0 : Int32)) then (1 : Int32) else (0 : Int32)) else (1 : Int32))  h1 n0 Z2 E_b1 F_count_b1 F_live_b1 g_b1 own_n01) hZ (hw _ (List.mem_of_getElem? (i := 11) rfl)) (hw _ (List.mem_of_getElem? (i := 8) rfl)) (by decide) (by decide)) (g := (mkF m 26 #[.val (.ref a), .val (.int t1)] [(.int (if lv = (0 : Int32) then (if ¬ (t1 = (0 : Int32)) then (1 : Int32) else (0 : Int32)) else (1 : Int32))), (.int (c1 + (1 : Int32))), (.ref b1), (.ref b1)])) rfl (by rw [hml]; rfl) (Steps.refl _) (a := b1) (argsL := [(.int (c1 + (1 : Int32))), (.int (if lv = (0 : Int32) then (if ¬ (t1 = (0 : Int32)) then (1 : Int32) else (0 : Int32)) else (1 : Int32)))]) (rest := [(.ref b1)]) (lenOf own_pd0 rfl) rfl (by show 2 * 0 + _ ≤ _; exact Nat.le_of_eq rfl) (hb hby own_d4_26) (fun _ _ => ⟨rfl, e4, (by decide : 1 + 0 ≤ _), (by decide : 2 + 0 ≤ _)⟩)
  dsimp only [Pt.U, Pt.locs, Pt.cells, Pt.slots] at X8 l8 y8 z8 st8 hQ8
  subst l8 y8 z8
  obtain ⟨rfl, N8q, K8, Ee8, Fc8, Fl8⟩ := hQ8
  have N8 := Fr.app N0 N8q
  have E := E.keep K8
  have Fc := Fc.keep K8 (ninS ne_a_b1 nin0)
  have Fl := Fl.keep K8 (ninS ne_a_b1 nin0)
  have E_b1 := E_b1.keep K8
  have Z9 := Nat.le_trans Z2 K8.1
  have KP := KP.trans K8 (allS (Or.inr sz_b1) all0)
  obtain ⟨fs, hr, hrun, hended, hW, hsame⟩ := X8.leave (v := some (.ref b1)) (fun h => by rw [Bd.returns] at h; cases h)
  refine ⟨_, _, pre7 _ ?_, hrun, hended, _, _, rfl, ?_, ⟨_, rfl⟩, hW, hsame.mono (by decide) (by decide)⟩
  · show Steps p.tables e below (T4.setTop (mkF m 26 #[.val (.ref a), .val (.int t1)] [(.int (if lv = (0 : Int32) then (if ¬ (t1 = (0 : Int32)) then (1 : Int32) else (0 : Int32)) else (1 : Int32))), (.int (c1 + (1 : Int32))), (.ref b1), (.ref b1)])) _
    refine st8.trans ?_
    show Steps p.tables e below (T8.setTop (mkF m 29 #[.val (.ref a), .val (.int t1)] [(.ref b1)])) _
    exact retOut X8 hx (t := (.object "com/example/millrace/millrace/engine/Arrivals")) Bd.returns rfl (Or.inr (Or.inr (Or.inr (Or.inr ⟨rfl, rfl, rfl⟩)))) (hb hby own_d4_29) hr
  · show own_Q_own_with Z a t1 c1 lv h0 n0 _ T8.heap _
    exact ⟨b1, rfl, N8, KP, Ee8, Fc8, Fl8⟩
theorem own_d5_0 : decode prog_25_method_2_code 0 = .ok (.aload_n 0, 1) := by decide +kernel
theorem own_d5_1 : decode prog_25_method_2_code 1 = .ok (.getfield 7, 3) := by decide +kernel
theorem own_d5_4 : decode prog_25_method_2_code 4 = .ok (.ireturn, 1) := by decide +kernel
theorem own_ef5 (m : MethodId) (x0 : Addr) : entryFrame m #[(.ref x0)] 1 = mkF m 0 #[.val (.ref x0)] [] := by first | (simp [entryFrame, mkF, argsToLocals, Value.category]; done) | rfl
def own_Q_own_count (Z : State) (a : Addr) (c1 : Int32) (h0 : Heap) (n0 : Nat) (v : Option Value) (h : Heap) (L : List Loc) : Prop := v = some (.int c1) ∧ Fr n0 L ∧ h = h0
set_option maxRecDepth 65536 in
set_option maxHeartbeats 40000000 in
theorem own_count (l : Launch) (Z : State) (a0 : Array Value) (hw : ∀ d ∈ tables_1, d.before a0 Z = true) (ws : List Jvm.Cond) (a : Addr) (c1 : Int32) (h0 : Heap) (n0 : Nat) (Z0 : n0 ≤ h0.size) (Fc : Fld Z h0 a "com/example/millrace/millrace/engine/Arrivals" "count" "I" (.int c1)) :
    MetFree l (⟨"com/example/millrace/millrace/engine/Arrivals", "count", "()I"⟩ : MethodName) (head1 (Jvm.Cond.code (⟨"com/example/millrace/millrace/engine/Arrivals", "count", "()I"⟩ : MethodName) prog_25_method_2_code 1 (some .int) :: ws) ({ frames := 0, cells := 0, slots := 0, locals := 0 } : Room)) (fun as_ U => as_ = #[(.ref a)] ∧ Z.Warmed39 U.vm ∧ U.heap = h0) (fun _ _ _ _ _ => True) (fun _ U o U' => ∃ v L, o = .returned v ∧ own_Q_own_count Z a c1 h0 n0 v U'.heap L ∧ FrameEnd U o U' L ({ frames := 0, cells := 0, slots := 0, locals := 0 } : Room).cells ({ frames := 0, cells := 0, slots := 0, locals := 0 } : Room).slots) := by
  refine MetFree.of_bodySF (plainFor_of_name own_pn0) hisR ?_
  intro p e s m args below meth c s₁ Bd hml0 hP hK
  obtain ⟨rfl, hZ, hh⟩ := hP
  have hx := Bd.exec
  have hby := Bd.bytes
  have hml : c.maxLocals = 1 := hml0
  have hown : s.vm.findClass "com/example/millrace/millrace/engine/Arrivals" = some m.cls := findClass_of_methodNamed Bd.named
  have hnm := (name_of_methodNamed Bd.named Bd.method).1
  have X0 : Stand p l e ({ frames := 0, cells := 0, slots := 0, locals := 0 } : Room) s m #[(.ref a)] below meth c s₁ [] 0 0 := Stand.of_body Bd
  have e0 : s₁.heap = h0 := by rw [← hh, Bd.state]; rfl
  have N0 := Fr.nil n0
  have pre0 : ∀ t, Steps p.tables e below (s₁.setTop (mkF m 0 #[.val (.ref a)] [])) t → Steps p.tables e below (s₁.setTop (entryFrame m #[(.ref a)] 1)) t := fun t k => castTop (own_ef5 m a) k
  obtain ⟨T1, X1, e1, st1⟩ := getF X0 hx hZ hown (host := "") (Or.inl (hw _ (List.mem_of_getElem? (i := 15) rfl))) Via.refl e0 Fc (g := (mkF m 1 #[.val (.ref a)] [(.ref a)])) rfl rfl (hb hby own_d5_1)
  obtain ⟨fs, hr, hrun, hended, hW, hsame⟩ := X1.leave (v := some (.int c1)) (fun h => by rw [Bd.returns] at h; cases h)
  refine ⟨_, _, pre0 _ ?_, hrun, hended, _, _, rfl, ?_, ⟨_, rfl⟩, hW, hsame.mono (by decide) (by decide)⟩
  · show Steps p.tables e below (s₁.setTop (mkF m 0 #[.val (.ref a)] [])) _
    refine XS.aloadN X0.here hx rfl (hb hby own_d5_0) rfl rfl ?_
    show Steps p.tables e below (s₁.setTop (mkF m 1 #[.val (.ref a)] [(.ref a)])) _
    refine st1 _ ?_
    show Steps p.tables e below (T1.setTop (mkF m 4 #[.val (.ref a)] [(.int c1)])) _
    exact retI X1 hx Bd.returns (hb hby own_d5_4) hr
  · show own_Q_own_count Z a c1 h0 n0 _ T1.heap _
    rw [e1]
    exact ⟨rfl, N0, rfl⟩
theorem own_d6_0 : decode prog_25_method_3_code 0 = .ok (.aload_n 0, 1) := by decide +kernel
theorem own_d6_1 : decode prog_25_method_3_code 1 = .ok (.getfield 13, 3) := by decide +kernel
theorem own_d6_4 : decode prog_25_method_3_code 4 = .ok (.ireturn, 1) := by decide +kernel
theorem own_ef6 (m : MethodId) (x0 : Addr) : entryFrame m #[(.ref x0)] 1 = mkF m 0 #[.val (.ref x0)] [] := by first | (simp [entryFrame, mkF, argsToLocals, Value.category]; done) | rfl
def own_Q_own_live (Z : State) (a : Addr) (lv : Int32) (h0 : Heap) (n0 : Nat) (v : Option Value) (h : Heap) (L : List Loc) : Prop := v = some (.int lv) ∧ Fr n0 L ∧ h = h0
set_option maxRecDepth 65536 in
set_option maxHeartbeats 40000000 in
theorem own_live (l : Launch) (Z : State) (a0 : Array Value) (hw : ∀ d ∈ tables_1, d.before a0 Z = true) (ws : List Jvm.Cond) (a : Addr) (lv : Int32) (h0 : Heap) (n0 : Nat) (Z0 : n0 ≤ h0.size) (Fl : Fld Z h0 a "com/example/millrace/millrace/engine/Arrivals" "live" "Z" (.int lv)) (h01 : lv = 0 ∨ lv = 1) :
    MetFree l (⟨"com/example/millrace/millrace/engine/Arrivals", "live", "()Z"⟩ : MethodName) (head1 (Jvm.Cond.code (⟨"com/example/millrace/millrace/engine/Arrivals", "live", "()Z"⟩ : MethodName) prog_25_method_3_code 1 (some .boolean) :: ws) ({ frames := 0, cells := 0, slots := 0, locals := 0 } : Room)) (fun as_ U => as_ = #[(.ref a)] ∧ Z.Warmed39 U.vm ∧ U.heap = h0) (fun _ _ _ _ _ => True) (fun _ U o U' => ∃ v L, o = .returned v ∧ own_Q_own_live Z a lv h0 n0 v U'.heap L ∧ FrameEnd U o U' L ({ frames := 0, cells := 0, slots := 0, locals := 0 } : Room).cells ({ frames := 0, cells := 0, slots := 0, locals := 0 } : Room).slots) := by
  refine MetFree.of_bodySF (plainFor_of_name own_pn0) hisR ?_
  intro p e s m args below meth c s₁ Bd hml0 hP hK
  obtain ⟨rfl, hZ, hh⟩ := hP
  have hx := Bd.exec
  have hby := Bd.bytes
  have hml : c.maxLocals = 1 := hml0
  have hown : s.vm.findClass "com/example/millrace/millrace/engine/Arrivals" = some m.cls := findClass_of_methodNamed Bd.named
  have hnm := (name_of_methodNamed Bd.named Bd.method).1
  have X0 : Stand p l e ({ frames := 0, cells := 0, slots := 0, locals := 0 } : Room) s m #[(.ref a)] below meth c s₁ [] 0 0 := Stand.of_body Bd
  have e0 : s₁.heap = h0 := by rw [← hh, Bd.state]; rfl
  have N0 := Fr.nil n0
  have pre0 : ∀ t, Steps p.tables e below (s₁.setTop (mkF m 0 #[.val (.ref a)] [])) t → Steps p.tables e below (s₁.setTop (entryFrame m #[(.ref a)] 1)) t := fun t k => castTop (own_ef6 m a) k
  obtain ⟨T1, X1, e1, st1⟩ := getF X0 hx hZ hown (host := "") (Or.inl (hw _ (List.mem_of_getElem? (i := 17) rfl))) Via.refl e0 Fl (g := (mkF m 1 #[.val (.ref a)] [(.ref a)])) rfl rfl (hb hby own_d6_1)
  obtain ⟨fs, hr, hrun, hended, hW, hsame⟩ := X1.leave (v := some (.int (nar .boolean lv))) (fun h => by rw [Bd.returns] at h; cases h)
  refine ⟨_, _, pre0 _ ?_, hrun, hended, _, _, rfl, ?_, ⟨_, rfl⟩, hW, hsame.mono (by decide) (by decide)⟩
  · show Steps p.tables e below (s₁.setTop (mkF m 0 #[.val (.ref a)] [])) _
    refine XS.aloadN X0.here hx rfl (hb hby own_d6_0) rfl rfl ?_
    show Steps p.tables e below (s₁.setTop (mkF m 1 #[.val (.ref a)] [(.ref a)])) _
    refine st1 _ ?_
    show Steps p.tables e below (T1.setTop (mkF m 4 #[.val (.ref a)] [(.int lv)])) _
    exact retN X1 hx (t := .boolean) Bd.returns (by simp) (hb hby own_d6_4) hr
  · show own_Q_own_live Z a lv h0 n0 _ T1.heap _
    rw [e1]
    exact ⟨own_iv (own_nb2 h01), N0, rfl⟩
theorem own_pd1 : parseMethodDescriptor "(II)I" = some ⟨[.int, .int], some .int⟩ := by decide +kernel
theorem own_pd2 : parseMethodDescriptor "(Z)Lcom/example/millrace/millrace/engine/Arrivals;" = some ⟨[.boolean], some (.object "com/example/millrace/millrace/engine/Arrivals")⟩ := by decide +kernel
theorem own_pd3 : parseMethodDescriptor "()I" = some ⟨[], some .int⟩ := by decide +kernel
theorem own_pd4 : parseMethodDescriptor "()Z" = some ⟨[], some .boolean⟩ := by decide +kernel
theorem own_pn1 : plainName "com/example/millrace/millrace/engine/ArrivalsWithPinLaw" = true := by first | (simp [plainName, overriddenIn]; done) | decide +kernel
theorem own_ef0 (m : MethodId) (x0 : Int32) (x1 : Int32) : entryFrame m #[(.int x0), (.int x1)] maxLocals = mkF m 0 #[.val (.int x0), .val (.int x1), .unset, .unset, .unset, .unset, .unset, .unset, .unset, .unset] [] := by first | (simp [entryFrame, mkF, argsToLocals, Value.category, maxLocals]; done) | rfl
def own_Q_own_law (Z : State) (x1 : Int32) (x2 : Int32) (h0 : Heap) (n0 : Nat) (v : Option Value) (h : Heap) (L : List Loc) : Prop := v = some (.int 1) ∧ Fr n0 L
set_option maxRecDepth 65536 in
set_option maxHeartbeats 40000000 in
theorem own_law (l : Launch) (Z : State) (a0 : Array Value) (hw : ∀ d ∈ tables_1, d.before a0 Z = true) (ws : List Jvm.Cond) (x1 : Int32) (x2 : Int32) (h0 : Heap) (n0 : Nat) (Z0 : n0 ≤ h0.size) :
    MetFree l x (head1 (Jvm.Cond.code x code maxLocals ret :: ws) room_1) (fun as_ U => as_ = #[(.int x1), (.int x2)] ∧ Z.Warmed39 U.vm ∧ U.heap = h0) (fun _ _ _ _ _ => True) (fun _ U o U' => ∃ v L, o = .returned v ∧ own_Q_own_law Z x1 x2 h0 n0 v U'.heap L ∧ FrameEnd U o U' L room_1.cells room_1.slots) := by
  refine MetFree.of_bodySF (plainFor_of_name own_pn1) hisR ?_
  intro p e s m args below meth c s₁ Bd hml0 hP hK
  obtain ⟨rfl, hZ, hh⟩ := hP
  have hx := Bd.exec
  have hby := Bd.bytes
  have hml : c.maxLocals = 10 := hml0
  have hown : s.vm.findClass "com/example/millrace/millrace/engine/ArrivalsWithPinLaw" = some m.cls := findClass_of_methodNamed Bd.named
  have hnm := (name_of_methodNamed Bd.named Bd.method).1
  have X0 : Stand p l e room_1 s m #[(.int x1), (.int x2)] below meth c s₁ [] 0 0 := Stand.of_body Bd
  have e0 : s₁.heap = h0 := by rw [← hh, Bd.state]; rfl
  have N0 := Fr.nil n0
  have pre0 : ∀ t, Steps p.tables e below (s₁.setTop (mkF m 0 #[.val (.int x1), .val (.int x2), .unset, .unset, .unset, .unset, .unset, .unset, .unset, .unset] [])) t → Steps p.tables e below (s₁.setTop (entryFrame m #[(.int x1), (.int x2)] maxLocals)) t := fun t k => castTop (own_ef0 m x1 x2) k
  obtain ⟨_, _, ⟨T1, L1, k1, n1⟩, -, X1, ⟨Lc1, hQ1, l1, y1, z1⟩, st1⟩ := Jvm.LawKit.callS X0 hx (y := (⟨"java/lang/Math", "min", "(II)I"⟩ : MethodName)) hown (mvT hZ (hw _ (List.mem_of_getElem? (i := 2) rfl))) (mvT hZ (hw _ (List.mem_of_getElem? (i := 3) rfl))) (mvT hZ (hw _ (List.mem_of_getElem? (i := 4) rfl))) (mvT hZ (hw _ (List.mem_of_getElem? (i := 5) rfl))) (by decide) (backOf (W := 0) (own_min l Z a0 hw [] (x1 &&& (2147483647 : Int32)) (2147483645 : Int32)  h0 n0 Z0 ) hZ (hw _ (List.mem_of_getElem? (i := 5) rfl)) (hw _ (List.mem_of_getElem? (i := 4) rfl)) (by decide) (by decide)) (g := (mkF m 6 #[.val (.int x1), .val (.int x2), .unset, .unset, .unset, .unset, .unset, .unset, .unset, .unset] [(.int (2147483645 : Int32)), (.int (x1 &&& (2147483647 : Int32)))])) rfl (by rw [hml]; rfl) (argsL := [(.int (x1 &&& (2147483647 : Int32))), (.int (2147483645 : Int32))]) (rest := []) (lenOf own_pd1 rfl) rfl (by show 2 * 0 + _ ≤ _; exact Nat.le_of_eq rfl) (hb hby at_6) (fun _ _ => ⟨rfl, e0, (by decide : 0 + 0 ≤ _), (by decide : 0 + 0 ≤ _)⟩)
  dsimp only [Pt.U, Pt.locs, Pt.cells, Pt.slots] at X1 l1 y1 z1 st1 hQ1
  subst l1 y1 z1
  obtain ⟨rfl, N1q, e1⟩ := hQ1
  have N1 := Fr.app N0 N1q
  have pre3 : ∀ t, Steps p.tables e below (T1.setTop (mkF m 21 #[.val (.int x1), .val (.int x2), .val (.int (if (2147483645 : Int32) < (x1 &&& (2147483647 : Int32)) then (2147483645 : Int32) else (x1 &&& (2147483647 : Int32)))), .unset, .unset, .unset, .unset, .unset, .unset, .unset] [(.int (if ¬ ((x2 &&& (1 : Int32)) = (0 : Int32)) then (1 : Int32) else (0 : Int32)))])) t → Steps p.tables e below (s₁.setTop (entryFrame m #[(.int x1), (.int x2)] maxLocals)) t := fun t k => pre0 t (by
    show Steps p.tables e below (s₁.setTop (mkF m 0 #[.val (.int x1), .val (.int x2), .unset, .unset, .unset, .unset, .unset, .unset, .unset, .unset] [])) _
    refine XS.iloadN X0.here hx rfl (hb hby at_0) rfl ?_
    show Steps p.tables e below (s₁.setTop (mkF m 1 #[.val (.int x1), .val (.int x2), .unset, .unset, .unset, .unset, .unset, .unset, .unset, .unset] [(.int x1)])) _
    refine X0.ldcInt hx hown (mvT hZ (hw _ (List.mem_of_getElem? (i := 0) rfl))) (g := (mkF m 1 #[.val (.int x1), .val (.int x2), .unset, .unset, .unset, .unset, .unset, .unset, .unset, .unset] [(.int x1)])) rfl (hb hby at_1) _ ?_
    show Steps p.tables e below (s₁.setTop (mkF m 3 #[.val (.int x1), .val (.int x2), .unset, .unset, .unset, .unset, .unset, .unset, .unset, .unset] [(.int (2147483647 : Int32)), (.int x1)])) _
    refine XS.iand X0.here hx rfl (hb hby at_3) rfl ?_
    show Steps p.tables e below (s₁.setTop (mkF m 4 #[.val (.int x1), .val (.int x2), .unset, .unset, .unset, .unset, .unset, .unset, .unset, .unset] [(.int (x1 &&& (2147483647 : Int32)))])) _
    refine X0.ldcInt hx hown (mvT hZ (hw _ (List.mem_of_getElem? (i := 1) rfl))) (g := (mkF m 4 #[.val (.int x1), .val (.int x2), .unset, .unset, .unset, .unset, .unset, .unset, .unset, .unset] [(.int (x1 &&& (2147483647 : Int32)))])) rfl (hb hby at_4) _ ?_
    show Steps p.tables e below (s₁.setTop (mkF m 6 #[.val (.int x1), .val (.int x2), .unset, .unset, .unset, .unset, .unset, .unset, .unset, .unset] [(.int (2147483645 : Int32)), (.int (x1 &&& (2147483647 : Int32)))])) _
    refine st1 _ ?_
    show Steps p.tables e below (T1.setTop (mkF m 9 #[.val (.int x1), .val (.int x2), .unset, .unset, .unset, .unset, .unset, .unset, .unset, .unset] [(.int (if (2147483645 : Int32) < (x1 &&& (2147483647 : Int32)) then (2147483645 : Int32) else (x1 &&& (2147483647 : Int32))))])) _
    refine XS.istoreN X1.here hx rfl (hb hby at_9) rfl (l' := #[.val (.int x1), .val (.int x2), .val (.int (if (2147483645 : Int32) < (x1 &&& (2147483647 : Int32)) then (2147483645 : Int32) else (x1 &&& (2147483647 : Int32)))), .unset, .unset, .unset, .unset, .unset, .unset, .unset]) rfl ?_
    show Steps p.tables e below (T1.setTop (mkF m 10 #[.val (.int x1), .val (.int x2), .val (.int (if (2147483645 : Int32) < (x1 &&& (2147483647 : Int32)) then (2147483645 : Int32) else (x1 &&& (2147483647 : Int32)))), .unset, .unset, .unset, .unset, .unset, .unset, .unset] [])) _
    refine XS.iloadN X1.here hx rfl (hb hby at_10) rfl ?_
    show Steps p.tables e below (T1.setTop (mkF m 11 #[.val (.int x1), .val (.int x2), .val (.int (if (2147483645 : Int32) < (x1 &&& (2147483647 : Int32)) then (2147483645 : Int32) else (x1 &&& (2147483647 : Int32)))), .unset, .unset, .unset, .unset, .unset, .unset, .unset] [(.int x2)])) _
    refine XS.iconst X1.here hx rfl (hb hby at_11) ?_
    show Steps p.tables e below (T1.setTop (mkF m 12 #[.val (.int x1), .val (.int x2), .val (.int (if (2147483645 : Int32) < (x1 &&& (2147483647 : Int32)) then (2147483645 : Int32) else (x1 &&& (2147483647 : Int32)))), .unset, .unset, .unset, .unset, .unset, .unset, .unset] [(.int (1 : Int32)), (.int x2)])) _
    refine XS.iand X1.here hx rfl (hb hby at_12) rfl ?_
    show Steps p.tables e below (T1.setTop (mkF m 13 #[.val (.int x1), .val (.int x2), .val (.int (if (2147483645 : Int32) < (x1 &&& (2147483647 : Int32)) then (2147483645 : Int32) else (x1 &&& (2147483647 : Int32)))), .unset, .unset, .unset, .unset, .unset, .unset, .unset] [(.int (x2 &&& (1 : Int32)))])) _
    by_cases hc2 : (x2 &&& (1 : Int32)) = (0 : Int32)
    · skip
      refine XS.ifYes X1.here hx rfl (pc0 := 13) (pc' := 20) rfl (hb hby at_13) rfl ((if0 _ _).trans (teq hc2).1) (by decide) (by decide) ?_
      show Steps p.tables e below (T1.setTop (mkF m 20 #[.val (.int x1), .val (.int x2), .val (.int (if (2147483645 : Int32) < (x1 &&& (2147483647 : Int32)) then (2147483645 : Int32) else (x1 &&& (2147483647 : Int32)))), .unset, .unset, .unset, .unset, .unset, .unset, .unset] [])) _
      refine XS.iconst X1.here hx rfl (hb hby at_20) ?_
      exact castTop (congrArg (fun z_ => (mkF m 21 #[.val (.int x1), .val (.int x2), .val (.int (if (2147483645 : Int32) < (x1 &&& (2147483647 : Int32)) then (2147483645 : Int32) else (x1 &&& (2147483647 : Int32)))), .unset, .unset, .unset, .unset, .unset, .unset, .unset] [(.int z_)])) (show (0 : Int32) = (if ¬ ((x2 &&& (1 : Int32)) = (0 : Int32)) then (1 : Int32) else (0 : Int32)) from by rw [if_neg (not_not_intro hc2)])) k
    · skip
      refine XS.ifNo X1.here hx rfl (hb hby at_13) rfl ((if0 _ _).trans (feq hc2).1) ?_
      show Steps p.tables e below (T1.setTop (mkF m 16 #[.val (.int x1), .val (.int x2), .val (.int (if (2147483645 : Int32) < (x1 &&& (2147483647 : Int32)) then (2147483645 : Int32) else (x1 &&& (2147483647 : Int32)))), .unset, .unset, .unset, .unset, .unset, .unset, .unset] [])) _
      refine XS.iconst X1.here hx rfl (hb hby at_16) ?_
      show Steps p.tables e below (T1.setTop (mkF m 17 #[.val (.int x1), .val (.int x2), .val (.int (if (2147483645 : Int32) < (x1 &&& (2147483647 : Int32)) then (2147483645 : Int32) else (x1 &&& (2147483647 : Int32)))), .unset, .unset, .unset, .unset, .unset, .unset, .unset] [(.int (1 : Int32))])) _
      refine XS.goto X1.here hx rfl (pc0 := 17) (pc' := 21) rfl (hb hby at_17) (by decide) (by decide) ?_
      exact castTop (congrArg (fun z_ => (mkF m 21 #[.val (.int x1), .val (.int x2), .val (.int (if (2147483645 : Int32) < (x1 &&& (2147483647 : Int32)) then (2147483645 : Int32) else (x1 &&& (2147483647 : Int32)))), .unset, .unset, .unset, .unset, .unset, .unset, .unset] [(.int z_)])) (show (1 : Int32) = (if ¬ ((x2 &&& (1 : Int32)) = (0 : Int32)) then (1 : Int32) else (0 : Int32)) from by rw [if_pos hc2])) k)
  have pre5 : ∀ t, Steps p.tables e below (T1.setTop (mkF m 33 #[.val (.int x1), .val (.int x2), .val (.int (if (2147483645 : Int32) < (x1 &&& (2147483647 : Int32)) then (2147483645 : Int32) else (x1 &&& (2147483647 : Int32)))), .val (.int (if ¬ ((x2 &&& (1 : Int32)) = (0 : Int32)) then (1 : Int32) else (0 : Int32))), .unset, .unset, .unset, .unset, .unset, .unset] [(.int (if ¬ ((x2 &&& (2 : Int32)) = (0 : Int32)) then (1 : Int32) else (0 : Int32)))])) t → Steps p.tables e below (s₁.setTop (entryFrame m #[(.int x1), (.int x2)] maxLocals)) t := fun t k => pre3 t (by
    show Steps p.tables e below (T1.setTop (mkF m 21 #[.val (.int x1), .val (.int x2), .val (.int (if (2147483645 : Int32) < (x1 &&& (2147483647 : Int32)) then (2147483645 : Int32) else (x1 &&& (2147483647 : Int32)))), .unset, .unset, .unset, .unset, .unset, .unset, .unset] [(.int (if ¬ ((x2 &&& (1 : Int32)) = (0 : Int32)) then (1 : Int32) else (0 : Int32)))])) _
    refine XS.istoreN X1.here hx rfl (hb hby at_21) rfl (l' := #[.val (.int x1), .val (.int x2), .val (.int (if (2147483645 : Int32) < (x1 &&& (2147483647 : Int32)) then (2147483645 : Int32) else (x1 &&& (2147483647 : Int32)))), .val (.int (if ¬ ((x2 &&& (1 : Int32)) = (0 : Int32)) then (1 : Int32) else (0 : Int32))), .unset, .unset, .unset, .unset, .unset, .unset]) rfl ?_
    show Steps p.tables e below (T1.setTop (mkF m 22 #[.val (.int x1), .val (.int x2), .val (.int (if (2147483645 : Int32) < (x1 &&& (2147483647 : Int32)) then (2147483645 : Int32) else (x1 &&& (2147483647 : Int32)))), .val (.int (if ¬ ((x2 &&& (1 : Int32)) = (0 : Int32)) then (1 : Int32) else (0 : Int32))), .unset, .unset, .unset, .unset, .unset, .unset] [])) _
    refine XS.iloadN X1.here hx rfl (hb hby at_22) rfl ?_
    show Steps p.tables e below (T1.setTop (mkF m 23 #[.val (.int x1), .val (.int x2), .val (.int (if (2147483645 : Int32) < (x1 &&& (2147483647 : Int32)) then (2147483645 : Int32) else (x1 &&& (2147483647 : Int32)))), .val (.int (if ¬ ((x2 &&& (1 : Int32)) = (0 : Int32)) then (1 : Int32) else (0 : Int32))), .unset, .unset, .unset, .unset, .unset, .unset] [(.int x2)])) _
    refine XS.iconst X1.here hx rfl (hb hby at_23) ?_
    show Steps p.tables e below (T1.setTop (mkF m 24 #[.val (.int x1), .val (.int x2), .val (.int (if (2147483645 : Int32) < (x1 &&& (2147483647 : Int32)) then (2147483645 : Int32) else (x1 &&& (2147483647 : Int32)))), .val (.int (if ¬ ((x2 &&& (1 : Int32)) = (0 : Int32)) then (1 : Int32) else (0 : Int32))), .unset, .unset, .unset, .unset, .unset, .unset] [(.int (2 : Int32)), (.int x2)])) _
    refine XS.iand X1.here hx rfl (hb hby at_24) rfl ?_
    show Steps p.tables e below (T1.setTop (mkF m 25 #[.val (.int x1), .val (.int x2), .val (.int (if (2147483645 : Int32) < (x1 &&& (2147483647 : Int32)) then (2147483645 : Int32) else (x1 &&& (2147483647 : Int32)))), .val (.int (if ¬ ((x2 &&& (1 : Int32)) = (0 : Int32)) then (1 : Int32) else (0 : Int32))), .unset, .unset, .unset, .unset, .unset, .unset] [(.int (x2 &&& (2 : Int32)))])) _
    by_cases hc4 : (x2 &&& (2 : Int32)) = (0 : Int32)
    · skip
      refine XS.ifYes X1.here hx rfl (pc0 := 25) (pc' := 32) rfl (hb hby at_25) rfl ((if0 _ _).trans (teq hc4).1) (by decide) (by decide) ?_
      show Steps p.tables e below (T1.setTop (mkF m 32 #[.val (.int x1), .val (.int x2), .val (.int (if (2147483645 : Int32) < (x1 &&& (2147483647 : Int32)) then (2147483645 : Int32) else (x1 &&& (2147483647 : Int32)))), .val (.int (if ¬ ((x2 &&& (1 : Int32)) = (0 : Int32)) then (1 : Int32) else (0 : Int32))), .unset, .unset, .unset, .unset, .unset, .unset] [])) _
      refine XS.iconst X1.here hx rfl (hb hby at_32) ?_
      exact castTop (congrArg (fun z_ => (mkF m 33 #[.val (.int x1), .val (.int x2), .val (.int (if (2147483645 : Int32) < (x1 &&& (2147483647 : Int32)) then (2147483645 : Int32) else (x1 &&& (2147483647 : Int32)))), .val (.int (if ¬ ((x2 &&& (1 : Int32)) = (0 : Int32)) then (1 : Int32) else (0 : Int32))), .unset, .unset, .unset, .unset, .unset, .unset] [(.int z_)])) (show (0 : Int32) = (if ¬ ((x2 &&& (2 : Int32)) = (0 : Int32)) then (1 : Int32) else (0 : Int32)) from by rw [if_neg (not_not_intro hc4)])) k
    · skip
      refine XS.ifNo X1.here hx rfl (hb hby at_25) rfl ((if0 _ _).trans (feq hc4).1) ?_
      show Steps p.tables e below (T1.setTop (mkF m 28 #[.val (.int x1), .val (.int x2), .val (.int (if (2147483645 : Int32) < (x1 &&& (2147483647 : Int32)) then (2147483645 : Int32) else (x1 &&& (2147483647 : Int32)))), .val (.int (if ¬ ((x2 &&& (1 : Int32)) = (0 : Int32)) then (1 : Int32) else (0 : Int32))), .unset, .unset, .unset, .unset, .unset, .unset] [])) _
      refine XS.iconst X1.here hx rfl (hb hby at_28) ?_
      show Steps p.tables e below (T1.setTop (mkF m 29 #[.val (.int x1), .val (.int x2), .val (.int (if (2147483645 : Int32) < (x1 &&& (2147483647 : Int32)) then (2147483645 : Int32) else (x1 &&& (2147483647 : Int32)))), .val (.int (if ¬ ((x2 &&& (1 : Int32)) = (0 : Int32)) then (1 : Int32) else (0 : Int32))), .unset, .unset, .unset, .unset, .unset, .unset] [(.int (1 : Int32))])) _
      refine XS.goto X1.here hx rfl (pc0 := 29) (pc' := 33) rfl (hb hby at_29) (by decide) (by decide) ?_
      exact castTop (congrArg (fun z_ => (mkF m 33 #[.val (.int x1), .val (.int x2), .val (.int (if (2147483645 : Int32) < (x1 &&& (2147483647 : Int32)) then (2147483645 : Int32) else (x1 &&& (2147483647 : Int32)))), .val (.int (if ¬ ((x2 &&& (1 : Int32)) = (0 : Int32)) then (1 : Int32) else (0 : Int32))), .unset, .unset, .unset, .unset, .unset, .unset] [(.int z_)])) (show (1 : Int32) = (if ¬ ((x2 &&& (2 : Int32)) = (0 : Int32)) then (1 : Int32) else (0 : Int32)) from by rw [if_pos hc4])) k)
  have pre7 : ∀ t, Steps p.tables e below (T1.setTop (mkF m 46 #[.val (.int x1), .val (.int x2), .val (.int (if (2147483645 : Int32) < (x1 &&& (2147483647 : Int32)) then (2147483645 : Int32) else (x1 &&& (2147483647 : Int32)))), .val (.int (if ¬ ((x2 &&& (1 : Int32)) = (0 : Int32)) then (1 : Int32) else (0 : Int32))), .val (.int (if ¬ ((x2 &&& (2 : Int32)) = (0 : Int32)) then (1 : Int32) else (0 : Int32))), .unset, .unset, .unset, .unset, .unset] [(.int (if ¬ ((x2 &&& (4 : Int32)) = (0 : Int32)) then (1 : Int32) else (0 : Int32)))])) t → Steps p.tables e below (s₁.setTop (entryFrame m #[(.int x1), (.int x2)] maxLocals)) t := fun t k => pre5 t (by
    show Steps p.tables e below (T1.setTop (mkF m 33 #[.val (.int x1), .val (.int x2), .val (.int (if (2147483645 : Int32) < (x1 &&& (2147483647 : Int32)) then (2147483645 : Int32) else (x1 &&& (2147483647 : Int32)))), .val (.int (if ¬ ((x2 &&& (1 : Int32)) = (0 : Int32)) then (1 : Int32) else (0 : Int32))), .unset, .unset, .unset, .unset, .unset, .unset] [(.int (if ¬ ((x2 &&& (2 : Int32)) = (0 : Int32)) then (1 : Int32) else (0 : Int32)))])) _
    refine XS.istore X1.here hx rfl (hb hby at_33) rfl (l' := #[.val (.int x1), .val (.int x2), .val (.int (if (2147483645 : Int32) < (x1 &&& (2147483647 : Int32)) then (2147483645 : Int32) else (x1 &&& (2147483647 : Int32)))), .val (.int (if ¬ ((x2 &&& (1 : Int32)) = (0 : Int32)) then (1 : Int32) else (0 : Int32))), .val (.int (if ¬ ((x2 &&& (2 : Int32)) = (0 : Int32)) then (1 : Int32) else (0 : Int32))), .unset, .unset, .unset, .unset, .unset]) rfl ?_
    show Steps p.tables e below (T1.setTop (mkF m 35 #[.val (.int x1), .val (.int x2), .val (.int (if (2147483645 : Int32) < (x1 &&& (2147483647 : Int32)) then (2147483645 : Int32) else (x1 &&& (2147483647 : Int32)))), .val (.int (if ¬ ((x2 &&& (1 : Int32)) = (0 : Int32)) then (1 : Int32) else (0 : Int32))), .val (.int (if ¬ ((x2 &&& (2 : Int32)) = (0 : Int32)) then (1 : Int32) else (0 : Int32))), .unset, .unset, .unset, .unset, .unset] [])) _
    refine XS.iloadN X1.here hx rfl (hb hby at_35) rfl ?_
    show Steps p.tables e below (T1.setTop (mkF m 36 #[.val (.int x1), .val (.int x2), .val (.int (if (2147483645 : Int32) < (x1 &&& (2147483647 : Int32)) then (2147483645 : Int32) else (x1 &&& (2147483647 : Int32)))), .val (.int (if ¬ ((x2 &&& (1 : Int32)) = (0 : Int32)) then (1 : Int32) else (0 : Int32))), .val (.int (if ¬ ((x2 &&& (2 : Int32)) = (0 : Int32)) then (1 : Int32) else (0 : Int32))), .unset, .unset, .unset, .unset, .unset] [(.int x2)])) _
    refine XS.iconst X1.here hx rfl (hb hby at_36) ?_
    show Steps p.tables e below (T1.setTop (mkF m 37 #[.val (.int x1), .val (.int x2), .val (.int (if (2147483645 : Int32) < (x1 &&& (2147483647 : Int32)) then (2147483645 : Int32) else (x1 &&& (2147483647 : Int32)))), .val (.int (if ¬ ((x2 &&& (1 : Int32)) = (0 : Int32)) then (1 : Int32) else (0 : Int32))), .val (.int (if ¬ ((x2 &&& (2 : Int32)) = (0 : Int32)) then (1 : Int32) else (0 : Int32))), .unset, .unset, .unset, .unset, .unset] [(.int (4 : Int32)), (.int x2)])) _
    refine XS.iand X1.here hx rfl (hb hby at_37) rfl ?_
    show Steps p.tables e below (T1.setTop (mkF m 38 #[.val (.int x1), .val (.int x2), .val (.int (if (2147483645 : Int32) < (x1 &&& (2147483647 : Int32)) then (2147483645 : Int32) else (x1 &&& (2147483647 : Int32)))), .val (.int (if ¬ ((x2 &&& (1 : Int32)) = (0 : Int32)) then (1 : Int32) else (0 : Int32))), .val (.int (if ¬ ((x2 &&& (2 : Int32)) = (0 : Int32)) then (1 : Int32) else (0 : Int32))), .unset, .unset, .unset, .unset, .unset] [(.int (x2 &&& (4 : Int32)))])) _
    by_cases hc6 : (x2 &&& (4 : Int32)) = (0 : Int32)
    · skip
      refine XS.ifYes X1.here hx rfl (pc0 := 38) (pc' := 45) rfl (hb hby at_38) rfl ((if0 _ _).trans (teq hc6).1) (by decide) (by decide) ?_
      show Steps p.tables e below (T1.setTop (mkF m 45 #[.val (.int x1), .val (.int x2), .val (.int (if (2147483645 : Int32) < (x1 &&& (2147483647 : Int32)) then (2147483645 : Int32) else (x1 &&& (2147483647 : Int32)))), .val (.int (if ¬ ((x2 &&& (1 : Int32)) = (0 : Int32)) then (1 : Int32) else (0 : Int32))), .val (.int (if ¬ ((x2 &&& (2 : Int32)) = (0 : Int32)) then (1 : Int32) else (0 : Int32))), .unset, .unset, .unset, .unset, .unset] [])) _
      refine XS.iconst X1.here hx rfl (hb hby at_45) ?_
      exact castTop (congrArg (fun z_ => (mkF m 46 #[.val (.int x1), .val (.int x2), .val (.int (if (2147483645 : Int32) < (x1 &&& (2147483647 : Int32)) then (2147483645 : Int32) else (x1 &&& (2147483647 : Int32)))), .val (.int (if ¬ ((x2 &&& (1 : Int32)) = (0 : Int32)) then (1 : Int32) else (0 : Int32))), .val (.int (if ¬ ((x2 &&& (2 : Int32)) = (0 : Int32)) then (1 : Int32) else (0 : Int32))), .unset, .unset, .unset, .unset, .unset] [(.int z_)])) (show (0 : Int32) = (if ¬ ((x2 &&& (4 : Int32)) = (0 : Int32)) then (1 : Int32) else (0 : Int32)) from by rw [if_neg (not_not_intro hc6)])) k
    · skip
      refine XS.ifNo X1.here hx rfl (hb hby at_38) rfl ((if0 _ _).trans (feq hc6).1) ?_
      show Steps p.tables e below (T1.setTop (mkF m 41 #[.val (.int x1), .val (.int x2), .val (.int (if (2147483645 : Int32) < (x1 &&& (2147483647 : Int32)) then (2147483645 : Int32) else (x1 &&& (2147483647 : Int32)))), .val (.int (if ¬ ((x2 &&& (1 : Int32)) = (0 : Int32)) then (1 : Int32) else (0 : Int32))), .val (.int (if ¬ ((x2 &&& (2 : Int32)) = (0 : Int32)) then (1 : Int32) else (0 : Int32))), .unset, .unset, .unset, .unset, .unset] [])) _
      refine XS.iconst X1.here hx rfl (hb hby at_41) ?_
      show Steps p.tables e below (T1.setTop (mkF m 42 #[.val (.int x1), .val (.int x2), .val (.int (if (2147483645 : Int32) < (x1 &&& (2147483647 : Int32)) then (2147483645 : Int32) else (x1 &&& (2147483647 : Int32)))), .val (.int (if ¬ ((x2 &&& (1 : Int32)) = (0 : Int32)) then (1 : Int32) else (0 : Int32))), .val (.int (if ¬ ((x2 &&& (2 : Int32)) = (0 : Int32)) then (1 : Int32) else (0 : Int32))), .unset, .unset, .unset, .unset, .unset] [(.int (1 : Int32))])) _
      refine XS.goto X1.here hx rfl (pc0 := 42) (pc' := 46) rfl (hb hby at_42) (by decide) (by decide) ?_
      exact castTop (congrArg (fun z_ => (mkF m 46 #[.val (.int x1), .val (.int x2), .val (.int (if (2147483645 : Int32) < (x1 &&& (2147483647 : Int32)) then (2147483645 : Int32) else (x1 &&& (2147483647 : Int32)))), .val (.int (if ¬ ((x2 &&& (1 : Int32)) = (0 : Int32)) then (1 : Int32) else (0 : Int32))), .val (.int (if ¬ ((x2 &&& (2 : Int32)) = (0 : Int32)) then (1 : Int32) else (0 : Int32))), .unset, .unset, .unset, .unset, .unset] [(.int z_)])) (show (1 : Int32) = (if ¬ ((x2 &&& (4 : Int32)) = (0 : Int32)) then (1 : Int32) else (0 : Int32)) from by rw [if_pos hc6])) k)
  obtain ⟨T8, h8, X8, e8, E8, A8, D8, -, st8⟩ := newO X1 hx hZ hown (hw _ (List.mem_of_getElem? (i := 6) rfl)) (hw _ (List.mem_of_getElem? (i := 7) rfl)) (hw _ (List.mem_of_getElem? (i := 8) rfl)) e1 (g := (mkF m 48 #[.val (.int x1), .val (.int x2), .val (.int (if (2147483645 : Int32) < (x1 &&& (2147483647 : Int32)) then (2147483645 : Int32) else (x1 &&& (2147483647 : Int32)))), .val (.int (if ¬ ((x2 &&& (1 : Int32)) = (0 : Int32)) then (1 : Int32) else (0 : Int32))), .val (.int (if ¬ ((x2 &&& (2 : Int32)) = (0 : Int32)) then (1 : Int32) else (0 : Int32))), .val (.int (if ¬ ((x2 &&& (4 : Int32)) = (0 : Int32)) then (1 : Int32) else (0 : Int32))), .unset, .unset, .unset, .unset] [])) rfl (hb hby at_48) (by decide) (by decide)
  obtain ⟨b8, g8⟩ : ∃ z, z = h0.size := ⟨_, rfl⟩
  rw [← g8] at A8 D8 st8
  have g_b8 : n0 ≤ b8 := Nat.le_trans Z0 (Nat.le_of_eq g8.symm)
  have Z9 : n0 ≤ h8.size := Nat.le_trans Z0 E8.1
  have F_count_b8 : Fld Z h8 b8 "com/example/millrace/millrace/engine/Arrivals" "count" "I" (.int (0 : Int32)) := D8 (Or.inr (hw _ (List.mem_of_getElem? (i := 16) rfl))) (ty := .int) (by decide)
  have F_live_b8 : Fld Z h8 b8 "com/example/millrace/millrace/engine/Arrivals" "live" "Z" (.int (0 : Int32)) := D8 (Or.inr (hw _ (List.mem_of_getElem? (i := 18) rfl))) (ty := .boolean) (by decide)
  have E_b8 := A8
  obtain ⟨_, _, ⟨T10, L10, k10, n10⟩, -, X10, ⟨Lc10, hQ10, l10, y10, z10⟩, st10⟩ := X8.specialBack hx (y := (⟨"com/example/millrace/millrace/engine/Arrivals", "<init>", "(IZ)V"⟩ : MethodName)) rfl hown (mvT hZ (hw _ (List.mem_of_getElem? (i := 9) rfl))) (mvT hZ (hw _ (List.mem_of_getElem? (i := 10) rfl))) (mvT hZ (hw _ (List.mem_of_getElem? (i := 11) rfl))) (by decide) (backOf (W := 1) (own_init l Z a0 hw [] b8 (if (2147483645 : Int32) < (x1 &&& (2147483647 : Int32)) then (2147483645 : Int32) else (x1 &&& (2147483647 : Int32))) (if ¬ ((x2 &&& (1 : Int32)) = (0 : Int32)) then (1 : Int32) else (0 : Int32))  h8 n0 Z9 E_b8 F_count_b8 F_live_b8 g_b8 own_01) hZ (hw _ (List.mem_of_getElem? (i := 11) rfl)) (hw _ (List.mem_of_getElem? (i := 8) rfl)) (by decide) (by decide)) (g := (mkF m 54 #[.val (.int x1), .val (.int x2), .val (.int (if (2147483645 : Int32) < (x1 &&& (2147483647 : Int32)) then (2147483645 : Int32) else (x1 &&& (2147483647 : Int32)))), .val (.int (if ¬ ((x2 &&& (1 : Int32)) = (0 : Int32)) then (1 : Int32) else (0 : Int32))), .val (.int (if ¬ ((x2 &&& (2 : Int32)) = (0 : Int32)) then (1 : Int32) else (0 : Int32))), .val (.int (if ¬ ((x2 &&& (4 : Int32)) = (0 : Int32)) then (1 : Int32) else (0 : Int32))), .unset, .unset, .unset, .unset] [(.int (if ¬ ((x2 &&& (1 : Int32)) = (0 : Int32)) then (1 : Int32) else (0 : Int32))), (.int (if (2147483645 : Int32) < (x1 &&& (2147483647 : Int32)) then (2147483645 : Int32) else (x1 &&& (2147483647 : Int32)))), (.ref b8), (.ref b8)])) rfl (by rw [hml]; rfl) (Steps.refl _) (a := b8) (argsL := [(.int (if (2147483645 : Int32) < (x1 &&& (2147483647 : Int32)) then (2147483645 : Int32) else (x1 &&& (2147483647 : Int32)))), (.int (if ¬ ((x2 &&& (1 : Int32)) = (0 : Int32)) then (1 : Int32) else (0 : Int32)))]) (rest := [(.ref b8)]) (lenOf own_pd0 rfl) rfl (by show 2 * 0 + _ ≤ _; exact Nat.le_of_eq rfl) (hb hby at_54) (fun _ _ => ⟨rfl, e8, (by decide : 1 + 0 ≤ _), (by decide : 2 + 0 ≤ _)⟩)
  dsimp only [Pt.U, Pt.locs, Pt.cells, Pt.slots] at X10 l10 y10 z10 st10 hQ10
  subst l10 y10 z10
  obtain ⟨rfl, N10q, K10, Ee10, Fc10, Fl10⟩ := hQ10
  have N10 := Fr.app N1 N10q
  have E_b8 := E_b8.keep K10
  have Z11 := Nat.le_trans Z9 K10.1
  obtain ⟨cq12, kq12, q12a, q12b, q12c⟩ := isOf hZ rfl Ee10
  obtain ⟨_, _, ⟨T12, L12, k12, n12⟩, -, X12, ⟨Lc12, hQ12, l12, y12, z12⟩, st12⟩ := X10.virtualBack hx (y := (⟨"com/example/millrace/millrace/engine/Arrivals", "with", "(Z)Lcom/example/millrace/millrace/engine/Arrivals;"⟩ : MethodName)) (z := (⟨"com/example/millrace/millrace/engine/Arrivals", "with", "(Z)Lcom/example/millrace/millrace/engine/Arrivals;"⟩ : MethodName)) hown (mvT hZ (hw _ (List.mem_of_getElem? (i := 19) rfl))) (mvT hZ (hw _ (List.mem_of_getElem? (i := 20) rfl))) (notFace_of_selects (args := #[]) (mvT hZ (hw _ (List.mem_of_getElem? (i := 22) rfl)))) (mvT hZ (hw _ (List.mem_of_getElem? (i := 22) rfl))) (mvT hZ (hw _ (List.mem_of_getElem? (i := 21) rfl))) (by decide) (backOf (W := 0) (own_with l Z a0 hw [] b8 (if ¬ ((x2 &&& (2 : Int32)) = (0 : Int32)) then (1 : Int32) else (0 : Int32)) (if (2147483645 : Int32) < (x1 &&& (2147483647 : Int32)) then (2147483645 : Int32) else (x1 &&& (2147483647 : Int32))) (if ¬ ((x2 &&& (1 : Int32)) = (0 : Int32)) then (1 : Int32) else (0 : Int32)) T10.heap n0 Z11 Ee10 Fc10 Fl10) hZ (hw _ (List.mem_of_getElem? (i := 23) rfl)) (hw _ (List.mem_of_getElem? (i := 8) rfl)) (by decide) (by decide)) q12a q12c (g := (mkF m 63 #[.val (.int x1), .val (.int x2), .val (.int (if (2147483645 : Int32) < (x1 &&& (2147483647 : Int32)) then (2147483645 : Int32) else (x1 &&& (2147483647 : Int32)))), .val (.int (if ¬ ((x2 &&& (1 : Int32)) = (0 : Int32)) then (1 : Int32) else (0 : Int32))), .val (.int (if ¬ ((x2 &&& (2 : Int32)) = (0 : Int32)) then (1 : Int32) else (0 : Int32))), .val (.int (if ¬ ((x2 &&& (4 : Int32)) = (0 : Int32)) then (1 : Int32) else (0 : Int32))), .val (.ref b8), .unset, .unset, .unset] [(.int (if ¬ ((x2 &&& (2 : Int32)) = (0 : Int32)) then (1 : Int32) else (0 : Int32))), (.ref b8)])) rfl (by rw [hml]; rfl) (Steps.refl _) (argsL := [(.int (if ¬ ((x2 &&& (2 : Int32)) = (0 : Int32)) then (1 : Int32) else (0 : Int32)))]) (rest := []) (lenOf own_pd2 rfl) rfl (by show 2 * 0 + _ ≤ _; exact Nat.le_of_eq rfl) (hb hby at_63) (fun _ _ => ⟨rfl, rfl, (by decide : 1 + 1 ≤ _), (by decide : 2 + 2 ≤ _)⟩)
  dsimp only [Pt.U, Pt.locs, Pt.cells, Pt.slots] at X12 l12 y12 z12 st12 hQ12
  subst l12 y12 z12
  obtain ⟨b12, rfl, N12q, K12, Ee12, Fc12, Fl12⟩ := hQ12
  have N12 := Fr.app N10 N12q
  have Ee10 := Ee10.keep K12
  have Fc10 := Fc10.keep K12 nin0
  have Fl10 := Fl10.keep K12 nin0
  have Z13 := Nat.le_trans Z11 K12.1
  obtain ⟨cq14, kq14, q14a, q14b, q14c⟩ := isOf hZ rfl Ee12
  obtain ⟨_, _, ⟨T14, L14, k14, n14⟩, -, X14, ⟨Lc14, hQ14, l14, y14, z14⟩, st14⟩ := X12.virtualBack hx (y := (⟨"com/example/millrace/millrace/engine/Arrivals", "with", "(Z)Lcom/example/millrace/millrace/engine/Arrivals;"⟩ : MethodName)) (z := (⟨"com/example/millrace/millrace/engine/Arrivals", "with", "(Z)Lcom/example/millrace/millrace/engine/Arrivals;"⟩ : MethodName)) hown (mvT hZ (hw _ (List.mem_of_getElem? (i := 19) rfl))) (mvT hZ (hw _ (List.mem_of_getElem? (i := 20) rfl))) (notFace_of_selects (args := #[]) (mvT hZ (hw _ (List.mem_of_getElem? (i := 22) rfl)))) (mvT hZ (hw _ (List.mem_of_getElem? (i := 22) rfl))) (mvT hZ (hw _ (List.mem_of_getElem? (i := 21) rfl))) (by decide) (backOf (W := 0) (own_with l Z a0 hw [] b12 (if ¬ ((x2 &&& (4 : Int32)) = (0 : Int32)) then (1 : Int32) else (0 : Int32)) ((if (2147483645 : Int32) < (x1 &&& (2147483647 : Int32)) then (2147483645 : Int32) else (x1 &&& (2147483647 : Int32))) + (1 : Int32)) (if (if ¬ ((x2 &&& (1 : Int32)) = (0 : Int32)) then (1 : Int32) else (0 : Int32)) = (0 : Int32) then (if ¬ ((if ¬ ((x2 &&& (2 : Int32)) = (0 : Int32)) then (1 : Int32) else (0 : Int32)) = (0 : Int32)) then (1 : Int32) else (0 : Int32)) else (1 : Int32)) T12.heap n0 Z13 Ee12 Fc12 Fl12) hZ (hw _ (List.mem_of_getElem? (i := 23) rfl)) (hw _ (List.mem_of_getElem? (i := 8) rfl)) (by decide) (by decide)) q14a q14c (g := (mkF m 72 #[.val (.int x1), .val (.int x2), .val (.int (if (2147483645 : Int32) < (x1 &&& (2147483647 : Int32)) then (2147483645 : Int32) else (x1 &&& (2147483647 : Int32)))), .val (.int (if ¬ ((x2 &&& (1 : Int32)) = (0 : Int32)) then (1 : Int32) else (0 : Int32))), .val (.int (if ¬ ((x2 &&& (2 : Int32)) = (0 : Int32)) then (1 : Int32) else (0 : Int32))), .val (.int (if ¬ ((x2 &&& (4 : Int32)) = (0 : Int32)) then (1 : Int32) else (0 : Int32))), .val (.ref b8), .val (.ref b12), .unset, .unset] [(.int (if ¬ ((x2 &&& (4 : Int32)) = (0 : Int32)) then (1 : Int32) else (0 : Int32))), (.ref b12)])) rfl (by rw [hml]; rfl) (Steps.refl _) (argsL := [(.int (if ¬ ((x2 &&& (4 : Int32)) = (0 : Int32)) then (1 : Int32) else (0 : Int32)))]) (rest := []) (lenOf own_pd2 rfl) rfl (by show 2 * 0 + _ ≤ _; exact Nat.le_of_eq rfl) (hb hby at_72) (fun _ _ => ⟨rfl, rfl, (by decide : 2 + 1 ≤ _), (by decide : 4 + 2 ≤ _)⟩)
  dsimp only [Pt.U, Pt.locs, Pt.cells, Pt.slots] at X14 l14 y14 z14 st14 hQ14
  subst l14 y14 z14
  obtain ⟨b14, rfl, N14q, K14, Ee14, Fc14, Fl14⟩ := hQ14
  have N14 := Fr.app N12 N14q
  have Ee10 := Ee10.keep K14
  have Fc10 := Fc10.keep K14 nin0
  have Fl10 := Fl10.keep K14 nin0
  have Ee12 := Ee12.keep K14
  have Fc12 := Fc12.keep K14 nin0
  have Fl12 := Fl12.keep K14 nin0
  have Z15 := Nat.le_trans Z13 K14.1
  obtain ⟨cq16, kq16, q16a, q16b, q16c⟩ := isOf hZ rfl Ee12
  obtain ⟨_, _, ⟨T16, L16, k16, n16⟩, -, X16, ⟨Lc16, hQ16, l16, y16, z16⟩, st16⟩ := X14.virtualBack hx (y := (⟨"com/example/millrace/millrace/engine/Arrivals", "count", "()I"⟩ : MethodName)) (z := (⟨"com/example/millrace/millrace/engine/Arrivals", "count", "()I"⟩ : MethodName)) hown (mvT hZ (hw _ (List.mem_of_getElem? (i := 26) rfl))) (mvT hZ (hw _ (List.mem_of_getElem? (i := 27) rfl))) (notFace_of_selects (args := #[]) (mvT hZ (hw _ (List.mem_of_getElem? (i := 29) rfl)))) (mvT hZ (hw _ (List.mem_of_getElem? (i := 29) rfl))) (mvT hZ (hw _ (List.mem_of_getElem? (i := 28) rfl))) (by decide) (backOf (W := 0) (own_count l Z a0 hw [] b12 ((if (2147483645 : Int32) < (x1 &&& (2147483647 : Int32)) then (2147483645 : Int32) else (x1 &&& (2147483647 : Int32))) + (1 : Int32)) T14.heap n0 Z15 Fc12) hZ (hw _ (List.mem_of_getElem? (i := 30) rfl)) (hw _ (List.mem_of_getElem? (i := 8) rfl)) (by decide) (by decide)) q16a q16c (g := (mkF m 87 #[.val (.int x1), .val (.int x2), .val (.int (if (2147483645 : Int32) < (x1 &&& (2147483647 : Int32)) then (2147483645 : Int32) else (x1 &&& (2147483647 : Int32)))), .val (.int (if ¬ ((x2 &&& (1 : Int32)) = (0 : Int32)) then (1 : Int32) else (0 : Int32))), .val (.int (if ¬ ((x2 &&& (2 : Int32)) = (0 : Int32)) then (1 : Int32) else (0 : Int32))), .val (.int (if ¬ ((x2 &&& (4 : Int32)) = (0 : Int32)) then (1 : Int32) else (0 : Int32))), .val (.ref b8), .val (.ref b12), .val (.ref b14), .val (.int (1 : Int32))] [(.ref b12)])) rfl (by rw [hml]; rfl) (Steps.refl _) (argsL := []) (rest := []) (lenOf own_pd3 rfl) rfl (by show 2 * 0 + _ ≤ _; exact Nat.le_of_eq rfl) (hb hby at_87) (fun _ _ => ⟨rfl, rfl, (by decide : 3 + 0 ≤ _), (by decide : 6 + 0 ≤ _)⟩)
  dsimp only [Pt.U, Pt.locs, Pt.cells, Pt.slots] at X16 l16 y16 z16 st16 hQ16
  subst l16 y16 z16
  obtain ⟨rfl, N16q, e16⟩ := hQ16
  have N16 := Fr.app N14 N16q
  obtain ⟨cq17, kq17, q17a, q17b, q17c⟩ := isOf hZ e16 Ee12
  obtain ⟨_, _, ⟨T17, L17, k17, n17⟩, -, X17, ⟨Lc17, hQ17, l17, y17, z17⟩, st17⟩ := X16.virtualBack hx (y := (⟨"com/example/millrace/millrace/engine/Arrivals", "live", "()Z"⟩ : MethodName)) (z := (⟨"com/example/millrace/millrace/engine/Arrivals", "live", "()Z"⟩ : MethodName)) hown (mvT hZ (hw _ (List.mem_of_getElem? (i := 31) rfl))) (mvT hZ (hw _ (List.mem_of_getElem? (i := 32) rfl))) (notFace_of_selects (args := #[]) (mvT hZ (hw _ (List.mem_of_getElem? (i := 34) rfl)))) (mvT hZ (hw _ (List.mem_of_getElem? (i := 34) rfl))) (mvT hZ (hw _ (List.mem_of_getElem? (i := 33) rfl))) (by decide) (backOf (W := 0) (own_live l Z a0 hw [] b12 (if (if ¬ ((x2 &&& (1 : Int32)) = (0 : Int32)) then (1 : Int32) else (0 : Int32)) = (0 : Int32) then (if ¬ ((if ¬ ((x2 &&& (2 : Int32)) = (0 : Int32)) then (1 : Int32) else (0 : Int32)) = (0 : Int32)) then (1 : Int32) else (0 : Int32)) else (1 : Int32)) T14.heap n0 Z15 Fl12 own_n01) hZ (hw _ (List.mem_of_getElem? (i := 35) rfl)) (hw _ (List.mem_of_getElem? (i := 8) rfl)) (by decide) (by decide)) q17a q17c (g := (mkF m 110 #[.val (.int x1), .val (.int x2), .val (.int (if (2147483645 : Int32) < (x1 &&& (2147483647 : Int32)) then (2147483645 : Int32) else (x1 &&& (2147483647 : Int32)))), .val (.int (if ¬ ((x2 &&& (1 : Int32)) = (0 : Int32)) then (1 : Int32) else (0 : Int32))), .val (.int (if ¬ ((x2 &&& (2 : Int32)) = (0 : Int32)) then (1 : Int32) else (0 : Int32))), .val (.int (if ¬ ((x2 &&& (4 : Int32)) = (0 : Int32)) then (1 : Int32) else (0 : Int32))), .val (.ref b8), .val (.ref b12), .val (.ref b14), .val (.int (1 : Int32))] [(.ref b12)])) rfl (by rw [hml]; rfl) (Steps.refl _) (argsL := []) (rest := []) (lenOf own_pd4 rfl) rfl (by show 2 * 0 + _ ≤ _; exact Nat.le_of_eq rfl) (hb hby at_110) (fun _ _ => ⟨rfl, e16, (by decide : 3 + 0 ≤ _), (by decide : 6 + 0 ≤ _)⟩)
  dsimp only [Pt.U, Pt.locs, Pt.cells, Pt.slots] at X17 l17 y17 z17 st17 hQ17
  subst l17 y17 z17
  obtain ⟨rfl, N17q, e17⟩ := hQ17
  have N17 := Fr.app N16 N17q
  have pre20 : ∀ t, Steps p.tables e below (T17.setTop (mkF m 127 #[.val (.int x1), .val (.int x2), .val (.int (if (2147483645 : Int32) < (x1 &&& (2147483647 : Int32)) then (2147483645 : Int32) else (x1 &&& (2147483647 : Int32)))), .val (.int (if ¬ ((x2 &&& (1 : Int32)) = (0 : Int32)) then (1 : Int32) else (0 : Int32))), .val (.int (if ¬ ((x2 &&& (2 : Int32)) = (0 : Int32)) then (1 : Int32) else (0 : Int32))), .val (.int (if ¬ ((x2 &&& (4 : Int32)) = (0 : Int32)) then (1 : Int32) else (0 : Int32))), .val (.ref b8), .val (.ref b12), .val (.ref b14), .val (.int (1 : Int32))] [(.int (if ¬ ((x2 &&& (1 : Int32)) = (0 : Int32)) then (1 : Int32) else (if ¬ ((x2 &&& (2 : Int32)) = (0 : Int32)) then (1 : Int32) else (0 : Int32)))), (.int (if (if ¬ ((x2 &&& (1 : Int32)) = (0 : Int32)) then (1 : Int32) else (0 : Int32)) = (0 : Int32) then (if ¬ ((if ¬ ((x2 &&& (2 : Int32)) = (0 : Int32)) then (1 : Int32) else (0 : Int32)) = (0 : Int32)) then (1 : Int32) else (0 : Int32)) else (1 : Int32)))])) t → Steps p.tables e below (s₁.setTop (entryFrame m #[(.int x1), (.int x2)] maxLocals)) t := fun t k => pre7 t (by
    show Steps p.tables e below (T1.setTop (mkF m 46 #[.val (.int x1), .val (.int x2), .val (.int (if (2147483645 : Int32) < (x1 &&& (2147483647 : Int32)) then (2147483645 : Int32) else (x1 &&& (2147483647 : Int32)))), .val (.int (if ¬ ((x2 &&& (1 : Int32)) = (0 : Int32)) then (1 : Int32) else (0 : Int32))), .val (.int (if ¬ ((x2 &&& (2 : Int32)) = (0 : Int32)) then (1 : Int32) else (0 : Int32))), .unset, .unset, .unset, .unset, .unset] [(.int (if ¬ ((x2 &&& (4 : Int32)) = (0 : Int32)) then (1 : Int32) else (0 : Int32)))])) _
    refine XS.istore X1.here hx rfl (hb hby at_46) rfl (l' := #[.val (.int x1), .val (.int x2), .val (.int (if (2147483645 : Int32) < (x1 &&& (2147483647 : Int32)) then (2147483645 : Int32) else (x1 &&& (2147483647 : Int32)))), .val (.int (if ¬ ((x2 &&& (1 : Int32)) = (0 : Int32)) then (1 : Int32) else (0 : Int32))), .val (.int (if ¬ ((x2 &&& (2 : Int32)) = (0 : Int32)) then (1 : Int32) else (0 : Int32))), .val (.int (if ¬ ((x2 &&& (4 : Int32)) = (0 : Int32)) then (1 : Int32) else (0 : Int32))), .unset, .unset, .unset, .unset]) rfl ?_
    show Steps p.tables e below (T1.setTop (mkF m 48 #[.val (.int x1), .val (.int x2), .val (.int (if (2147483645 : Int32) < (x1 &&& (2147483647 : Int32)) then (2147483645 : Int32) else (x1 &&& (2147483647 : Int32)))), .val (.int (if ¬ ((x2 &&& (1 : Int32)) = (0 : Int32)) then (1 : Int32) else (0 : Int32))), .val (.int (if ¬ ((x2 &&& (2 : Int32)) = (0 : Int32)) then (1 : Int32) else (0 : Int32))), .val (.int (if ¬ ((x2 &&& (4 : Int32)) = (0 : Int32)) then (1 : Int32) else (0 : Int32))), .unset, .unset, .unset, .unset] [])) _
    refine st8 _ ?_
    show Steps p.tables e below (T8.setTop (mkF m 51 #[.val (.int x1), .val (.int x2), .val (.int (if (2147483645 : Int32) < (x1 &&& (2147483647 : Int32)) then (2147483645 : Int32) else (x1 &&& (2147483647 : Int32)))), .val (.int (if ¬ ((x2 &&& (1 : Int32)) = (0 : Int32)) then (1 : Int32) else (0 : Int32))), .val (.int (if ¬ ((x2 &&& (2 : Int32)) = (0 : Int32)) then (1 : Int32) else (0 : Int32))), .val (.int (if ¬ ((x2 &&& (4 : Int32)) = (0 : Int32)) then (1 : Int32) else (0 : Int32))), .unset, .unset, .unset, .unset] [(.ref b8)])) _
    refine XS.dup X8.here hx rfl (hb hby at_51) rfl rfl ?_
    show Steps p.tables e below (T8.setTop (mkF m 52 #[.val (.int x1), .val (.int x2), .val (.int (if (2147483645 : Int32) < (x1 &&& (2147483647 : Int32)) then (2147483645 : Int32) else (x1 &&& (2147483647 : Int32)))), .val (.int (if ¬ ((x2 &&& (1 : Int32)) = (0 : Int32)) then (1 : Int32) else (0 : Int32))), .val (.int (if ¬ ((x2 &&& (2 : Int32)) = (0 : Int32)) then (1 : Int32) else (0 : Int32))), .val (.int (if ¬ ((x2 &&& (4 : Int32)) = (0 : Int32)) then (1 : Int32) else (0 : Int32))), .unset, .unset, .unset, .unset] [(.ref b8), (.ref b8)])) _
    refine XS.iloadN X8.here hx rfl (hb hby at_52) rfl ?_
    show Steps p.tables e below (T8.setTop (mkF m 53 #[.val (.int x1), .val (.int x2), .val (.int (if (2147483645 : Int32) < (x1 &&& (2147483647 : Int32)) then (2147483645 : Int32) else (x1 &&& (2147483647 : Int32)))), .val (.int (if ¬ ((x2 &&& (1 : Int32)) = (0 : Int32)) then (1 : Int32) else (0 : Int32))), .val (.int (if ¬ ((x2 &&& (2 : Int32)) = (0 : Int32)) then (1 : Int32) else (0 : Int32))), .val (.int (if ¬ ((x2 &&& (4 : Int32)) = (0 : Int32)) then (1 : Int32) else (0 : Int32))), .unset, .unset, .unset, .unset] [(.int (if (2147483645 : Int32) < (x1 &&& (2147483647 : Int32)) then (2147483645 : Int32) else (x1 &&& (2147483647 : Int32)))), (.ref b8), (.ref b8)])) _
    refine XS.iloadN X8.here hx rfl (hb hby at_53) rfl ?_
    show Steps p.tables e below (T8.setTop (mkF m 54 #[.val (.int x1), .val (.int x2), .val (.int (if (2147483645 : Int32) < (x1 &&& (2147483647 : Int32)) then (2147483645 : Int32) else (x1 &&& (2147483647 : Int32)))), .val (.int (if ¬ ((x2 &&& (1 : Int32)) = (0 : Int32)) then (1 : Int32) else (0 : Int32))), .val (.int (if ¬ ((x2 &&& (2 : Int32)) = (0 : Int32)) then (1 : Int32) else (0 : Int32))), .val (.int (if ¬ ((x2 &&& (4 : Int32)) = (0 : Int32)) then (1 : Int32) else (0 : Int32))), .unset, .unset, .unset, .unset] [(.int (if ¬ ((x2 &&& (1 : Int32)) = (0 : Int32)) then (1 : Int32) else (0 : Int32))), (.int (if (2147483645 : Int32) < (x1 &&& (2147483647 : Int32)) then (2147483645 : Int32) else (x1 &&& (2147483647 : Int32)))), (.ref b8), (.ref b8)])) _
    refine st10.trans ?_
    show Steps p.tables e below (T10.setTop (mkF m 57 #[.val (.int x1), .val (.int x2), .val (.int (if (2147483645 : Int32) < (x1 &&& (2147483647 : Int32)) then (2147483645 : Int32) else (x1 &&& (2147483647 : Int32)))), .val (.int (if ¬ ((x2 &&& (1 : Int32)) = (0 : Int32)) then (1 : Int32) else (0 : Int32))), .val (.int (if ¬ ((x2 &&& (2 : Int32)) = (0 : Int32)) then (1 : Int32) else (0 : Int32))), .val (.int (if ¬ ((x2 &&& (4 : Int32)) = (0 : Int32)) then (1 : Int32) else (0 : Int32))), .unset, .unset, .unset, .unset] [(.ref b8)])) _
    refine XS.astore X10.here hx rfl (hb hby at_57) rfl rfl (l' := #[.val (.int x1), .val (.int x2), .val (.int (if (2147483645 : Int32) < (x1 &&& (2147483647 : Int32)) then (2147483645 : Int32) else (x1 &&& (2147483647 : Int32)))), .val (.int (if ¬ ((x2 &&& (1 : Int32)) = (0 : Int32)) then (1 : Int32) else (0 : Int32))), .val (.int (if ¬ ((x2 &&& (2 : Int32)) = (0 : Int32)) then (1 : Int32) else (0 : Int32))), .val (.int (if ¬ ((x2 &&& (4 : Int32)) = (0 : Int32)) then (1 : Int32) else (0 : Int32))), .val (.ref b8), .unset, .unset, .unset]) rfl ?_
    show Steps p.tables e below (T10.setTop (mkF m 59 #[.val (.int x1), .val (.int x2), .val (.int (if (2147483645 : Int32) < (x1 &&& (2147483647 : Int32)) then (2147483645 : Int32) else (x1 &&& (2147483647 : Int32)))), .val (.int (if ¬ ((x2 &&& (1 : Int32)) = (0 : Int32)) then (1 : Int32) else (0 : Int32))), .val (.int (if ¬ ((x2 &&& (2 : Int32)) = (0 : Int32)) then (1 : Int32) else (0 : Int32))), .val (.int (if ¬ ((x2 &&& (4 : Int32)) = (0 : Int32)) then (1 : Int32) else (0 : Int32))), .val (.ref b8), .unset, .unset, .unset] [])) _
    refine XS.aload X10.here hx rfl (hb hby at_59) rfl rfl ?_
    show Steps p.tables e below (T10.setTop (mkF m 61 #[.val (.int x1), .val (.int x2), .val (.int (if (2147483645 : Int32) < (x1 &&& (2147483647 : Int32)) then (2147483645 : Int32) else (x1 &&& (2147483647 : Int32)))), .val (.int (if ¬ ((x2 &&& (1 : Int32)) = (0 : Int32)) then (1 : Int32) else (0 : Int32))), .val (.int (if ¬ ((x2 &&& (2 : Int32)) = (0 : Int32)) then (1 : Int32) else (0 : Int32))), .val (.int (if ¬ ((x2 &&& (4 : Int32)) = (0 : Int32)) then (1 : Int32) else (0 : Int32))), .val (.ref b8), .unset, .unset, .unset] [(.ref b8)])) _
    refine XS.iload X10.here hx rfl (hb hby at_61) rfl ?_
    show Steps p.tables e below (T10.setTop (mkF m 63 #[.val (.int x1), .val (.int x2), .val (.int (if (2147483645 : Int32) < (x1 &&& (2147483647 : Int32)) then (2147483645 : Int32) else (x1 &&& (2147483647 : Int32)))), .val (.int (if ¬ ((x2 &&& (1 : Int32)) = (0 : Int32)) then (1 : Int32) else (0 : Int32))), .val (.int (if ¬ ((x2 &&& (2 : Int32)) = (0 : Int32)) then (1 : Int32) else (0 : Int32))), .val (.int (if ¬ ((x2 &&& (4 : Int32)) = (0 : Int32)) then (1 : Int32) else (0 : Int32))), .val (.ref b8), .unset, .unset, .unset] [(.int (if ¬ ((x2 &&& (2 : Int32)) = (0 : Int32)) then (1 : Int32) else (0 : Int32))), (.ref b8)])) _
    refine st12.trans ?_
    show Steps p.tables e below (T12.setTop (mkF m 66 #[.val (.int x1), .val (.int x2), .val (.int (if (2147483645 : Int32) < (x1 &&& (2147483647 : Int32)) then (2147483645 : Int32) else (x1 &&& (2147483647 : Int32)))), .val (.int (if ¬ ((x2 &&& (1 : Int32)) = (0 : Int32)) then (1 : Int32) else (0 : Int32))), .val (.int (if ¬ ((x2 &&& (2 : Int32)) = (0 : Int32)) then (1 : Int32) else (0 : Int32))), .val (.int (if ¬ ((x2 &&& (4 : Int32)) = (0 : Int32)) then (1 : Int32) else (0 : Int32))), .val (.ref b8), .unset, .unset, .unset] [(.ref b12)])) _
    refine XS.astore X12.here hx rfl (hb hby at_66) rfl rfl (l' := #[.val (.int x1), .val (.int x2), .val (.int (if (2147483645 : Int32) < (x1 &&& (2147483647 : Int32)) then (2147483645 : Int32) else (x1 &&& (2147483647 : Int32)))), .val (.int (if ¬ ((x2 &&& (1 : Int32)) = (0 : Int32)) then (1 : Int32) else (0 : Int32))), .val (.int (if ¬ ((x2 &&& (2 : Int32)) = (0 : Int32)) then (1 : Int32) else (0 : Int32))), .val (.int (if ¬ ((x2 &&& (4 : Int32)) = (0 : Int32)) then (1 : Int32) else (0 : Int32))), .val (.ref b8), .val (.ref b12), .unset, .unset]) rfl ?_
    show Steps p.tables e below (T12.setTop (mkF m 68 #[.val (.int x1), .val (.int x2), .val (.int (if (2147483645 : Int32) < (x1 &&& (2147483647 : Int32)) then (2147483645 : Int32) else (x1 &&& (2147483647 : Int32)))), .val (.int (if ¬ ((x2 &&& (1 : Int32)) = (0 : Int32)) then (1 : Int32) else (0 : Int32))), .val (.int (if ¬ ((x2 &&& (2 : Int32)) = (0 : Int32)) then (1 : Int32) else (0 : Int32))), .val (.int (if ¬ ((x2 &&& (4 : Int32)) = (0 : Int32)) then (1 : Int32) else (0 : Int32))), .val (.ref b8), .val (.ref b12), .unset, .unset] [])) _
    refine XS.aload X12.here hx rfl (hb hby at_68) rfl rfl ?_
    show Steps p.tables e below (T12.setTop (mkF m 70 #[.val (.int x1), .val (.int x2), .val (.int (if (2147483645 : Int32) < (x1 &&& (2147483647 : Int32)) then (2147483645 : Int32) else (x1 &&& (2147483647 : Int32)))), .val (.int (if ¬ ((x2 &&& (1 : Int32)) = (0 : Int32)) then (1 : Int32) else (0 : Int32))), .val (.int (if ¬ ((x2 &&& (2 : Int32)) = (0 : Int32)) then (1 : Int32) else (0 : Int32))), .val (.int (if ¬ ((x2 &&& (4 : Int32)) = (0 : Int32)) then (1 : Int32) else (0 : Int32))), .val (.ref b8), .val (.ref b12), .unset, .unset] [(.ref b12)])) _
    refine XS.iload X12.here hx rfl (hb hby at_70) rfl ?_
    show Steps p.tables e below (T12.setTop (mkF m 72 #[.val (.int x1), .val (.int x2), .val (.int (if (2147483645 : Int32) < (x1 &&& (2147483647 : Int32)) then (2147483645 : Int32) else (x1 &&& (2147483647 : Int32)))), .val (.int (if ¬ ((x2 &&& (1 : Int32)) = (0 : Int32)) then (1 : Int32) else (0 : Int32))), .val (.int (if ¬ ((x2 &&& (2 : Int32)) = (0 : Int32)) then (1 : Int32) else (0 : Int32))), .val (.int (if ¬ ((x2 &&& (4 : Int32)) = (0 : Int32)) then (1 : Int32) else (0 : Int32))), .val (.ref b8), .val (.ref b12), .unset, .unset] [(.int (if ¬ ((x2 &&& (4 : Int32)) = (0 : Int32)) then (1 : Int32) else (0 : Int32))), (.ref b12)])) _
    refine st14.trans ?_
    show Steps p.tables e below (T14.setTop (mkF m 75 #[.val (.int x1), .val (.int x2), .val (.int (if (2147483645 : Int32) < (x1 &&& (2147483647 : Int32)) then (2147483645 : Int32) else (x1 &&& (2147483647 : Int32)))), .val (.int (if ¬ ((x2 &&& (1 : Int32)) = (0 : Int32)) then (1 : Int32) else (0 : Int32))), .val (.int (if ¬ ((x2 &&& (2 : Int32)) = (0 : Int32)) then (1 : Int32) else (0 : Int32))), .val (.int (if ¬ ((x2 &&& (4 : Int32)) = (0 : Int32)) then (1 : Int32) else (0 : Int32))), .val (.ref b8), .val (.ref b12), .unset, .unset] [(.ref b14)])) _
    refine XS.astore X14.here hx rfl (hb hby at_75) rfl rfl (l' := #[.val (.int x1), .val (.int x2), .val (.int (if (2147483645 : Int32) < (x1 &&& (2147483647 : Int32)) then (2147483645 : Int32) else (x1 &&& (2147483647 : Int32)))), .val (.int (if ¬ ((x2 &&& (1 : Int32)) = (0 : Int32)) then (1 : Int32) else (0 : Int32))), .val (.int (if ¬ ((x2 &&& (2 : Int32)) = (0 : Int32)) then (1 : Int32) else (0 : Int32))), .val (.int (if ¬ ((x2 &&& (4 : Int32)) = (0 : Int32)) then (1 : Int32) else (0 : Int32))), .val (.ref b8), .val (.ref b12), .val (.ref b14), .unset]) rfl ?_
    show Steps p.tables e below (T14.setTop (mkF m 77 #[.val (.int x1), .val (.int x2), .val (.int (if (2147483645 : Int32) < (x1 &&& (2147483647 : Int32)) then (2147483645 : Int32) else (x1 &&& (2147483647 : Int32)))), .val (.int (if ¬ ((x2 &&& (1 : Int32)) = (0 : Int32)) then (1 : Int32) else (0 : Int32))), .val (.int (if ¬ ((x2 &&& (2 : Int32)) = (0 : Int32)) then (1 : Int32) else (0 : Int32))), .val (.int (if ¬ ((x2 &&& (4 : Int32)) = (0 : Int32)) then (1 : Int32) else (0 : Int32))), .val (.ref b8), .val (.ref b12), .val (.ref b14), .unset] [])) _
    refine XS.iconst X14.here hx rfl (hb hby at_77) ?_
    show Steps p.tables e below (T14.setTop (mkF m 78 #[.val (.int x1), .val (.int x2), .val (.int (if (2147483645 : Int32) < (x1 &&& (2147483647 : Int32)) then (2147483645 : Int32) else (x1 &&& (2147483647 : Int32)))), .val (.int (if ¬ ((x2 &&& (1 : Int32)) = (0 : Int32)) then (1 : Int32) else (0 : Int32))), .val (.int (if ¬ ((x2 &&& (2 : Int32)) = (0 : Int32)) then (1 : Int32) else (0 : Int32))), .val (.int (if ¬ ((x2 &&& (4 : Int32)) = (0 : Int32)) then (1 : Int32) else (0 : Int32))), .val (.ref b8), .val (.ref b12), .val (.ref b14), .unset] [(.int (1 : Int32))])) _
    refine XS.istore X14.here hx rfl (hb hby at_78) rfl (l' := #[.val (.int x1), .val (.int x2), .val (.int (if (2147483645 : Int32) < (x1 &&& (2147483647 : Int32)) then (2147483645 : Int32) else (x1 &&& (2147483647 : Int32)))), .val (.int (if ¬ ((x2 &&& (1 : Int32)) = (0 : Int32)) then (1 : Int32) else (0 : Int32))), .val (.int (if ¬ ((x2 &&& (2 : Int32)) = (0 : Int32)) then (1 : Int32) else (0 : Int32))), .val (.int (if ¬ ((x2 &&& (4 : Int32)) = (0 : Int32)) then (1 : Int32) else (0 : Int32))), .val (.ref b8), .val (.ref b12), .val (.ref b14), .val (.int (1 : Int32))]) rfl ?_
    show Steps p.tables e below (T14.setTop (mkF m 80 #[.val (.int x1), .val (.int x2), .val (.int (if (2147483645 : Int32) < (x1 &&& (2147483647 : Int32)) then (2147483645 : Int32) else (x1 &&& (2147483647 : Int32)))), .val (.int (if ¬ ((x2 &&& (1 : Int32)) = (0 : Int32)) then (1 : Int32) else (0 : Int32))), .val (.int (if ¬ ((x2 &&& (2 : Int32)) = (0 : Int32)) then (1 : Int32) else (0 : Int32))), .val (.int (if ¬ ((x2 &&& (4 : Int32)) = (0 : Int32)) then (1 : Int32) else (0 : Int32))), .val (.ref b8), .val (.ref b12), .val (.ref b14), .val (.int (1 : Int32))] [])) _
    refine XS.iload X14.here hx rfl (hb hby at_80) rfl ?_
    show Steps p.tables e below (T14.setTop (mkF m 82 #[.val (.int x1), .val (.int x2), .val (.int (if (2147483645 : Int32) < (x1 &&& (2147483647 : Int32)) then (2147483645 : Int32) else (x1 &&& (2147483647 : Int32)))), .val (.int (if ¬ ((x2 &&& (1 : Int32)) = (0 : Int32)) then (1 : Int32) else (0 : Int32))), .val (.int (if ¬ ((x2 &&& (2 : Int32)) = (0 : Int32)) then (1 : Int32) else (0 : Int32))), .val (.int (if ¬ ((x2 &&& (4 : Int32)) = (0 : Int32)) then (1 : Int32) else (0 : Int32))), .val (.ref b8), .val (.ref b12), .val (.ref b14), .val (.int (1 : Int32))] [(.int (1 : Int32))])) _
    refine XS.ifNo X14.here hx rfl (hb hby at_82) rfl ((if0 _ _).trans (feq (by decide : ¬ ((1 : Int32) = (0 : Int32)))).1) ?_
    show Steps p.tables e below (T14.setTop (mkF m 85 #[.val (.int x1), .val (.int x2), .val (.int (if (2147483645 : Int32) < (x1 &&& (2147483647 : Int32)) then (2147483645 : Int32) else (x1 &&& (2147483647 : Int32)))), .val (.int (if ¬ ((x2 &&& (1 : Int32)) = (0 : Int32)) then (1 : Int32) else (0 : Int32))), .val (.int (if ¬ ((x2 &&& (2 : Int32)) = (0 : Int32)) then (1 : Int32) else (0 : Int32))), .val (.int (if ¬ ((x2 &&& (4 : Int32)) = (0 : Int32)) then (1 : Int32) else (0 : Int32))), .val (.ref b8), .val (.ref b12), .val (.ref b14), .val (.int (1 : Int32))] [])) _
    refine XS.aload X14.here hx rfl (hb hby at_85) rfl rfl ?_
    show Steps p.tables e below (T14.setTop (mkF m 87 #[.val (.int x1), .val (.int x2), .val (.int (if (2147483645 : Int32) < (x1 &&& (2147483647 : Int32)) then (2147483645 : Int32) else (x1 &&& (2147483647 : Int32)))), .val (.int (if ¬ ((x2 &&& (1 : Int32)) = (0 : Int32)) then (1 : Int32) else (0 : Int32))), .val (.int (if ¬ ((x2 &&& (2 : Int32)) = (0 : Int32)) then (1 : Int32) else (0 : Int32))), .val (.int (if ¬ ((x2 &&& (4 : Int32)) = (0 : Int32)) then (1 : Int32) else (0 : Int32))), .val (.ref b8), .val (.ref b12), .val (.ref b14), .val (.int (1 : Int32))] [(.ref b12)])) _
    refine st16.trans ?_
    show Steps p.tables e below (T16.setTop (mkF m 90 #[.val (.int x1), .val (.int x2), .val (.int (if (2147483645 : Int32) < (x1 &&& (2147483647 : Int32)) then (2147483645 : Int32) else (x1 &&& (2147483647 : Int32)))), .val (.int (if ¬ ((x2 &&& (1 : Int32)) = (0 : Int32)) then (1 : Int32) else (0 : Int32))), .val (.int (if ¬ ((x2 &&& (2 : Int32)) = (0 : Int32)) then (1 : Int32) else (0 : Int32))), .val (.int (if ¬ ((x2 &&& (4 : Int32)) = (0 : Int32)) then (1 : Int32) else (0 : Int32))), .val (.ref b8), .val (.ref b12), .val (.ref b14), .val (.int (1 : Int32))] [(.int ((if (2147483645 : Int32) < (x1 &&& (2147483647 : Int32)) then (2147483645 : Int32) else (x1 &&& (2147483647 : Int32))) + (1 : Int32)))])) _
    refine XS.iloadN X16.here hx rfl (hb hby at_90) rfl ?_
    show Steps p.tables e below (T16.setTop (mkF m 91 #[.val (.int x1), .val (.int x2), .val (.int (if (2147483645 : Int32) < (x1 &&& (2147483647 : Int32)) then (2147483645 : Int32) else (x1 &&& (2147483647 : Int32)))), .val (.int (if ¬ ((x2 &&& (1 : Int32)) = (0 : Int32)) then (1 : Int32) else (0 : Int32))), .val (.int (if ¬ ((x2 &&& (2 : Int32)) = (0 : Int32)) then (1 : Int32) else (0 : Int32))), .val (.int (if ¬ ((x2 &&& (4 : Int32)) = (0 : Int32)) then (1 : Int32) else (0 : Int32))), .val (.ref b8), .val (.ref b12), .val (.ref b14), .val (.int (1 : Int32))] [(.int (if (2147483645 : Int32) < (x1 &&& (2147483647 : Int32)) then (2147483645 : Int32) else (x1 &&& (2147483647 : Int32)))), (.int ((if (2147483645 : Int32) < (x1 &&& (2147483647 : Int32)) then (2147483645 : Int32) else (x1 &&& (2147483647 : Int32))) + (1 : Int32)))])) _
    refine XS.iconst X16.here hx rfl (hb hby at_91) ?_
    show Steps p.tables e below (T16.setTop (mkF m 92 #[.val (.int x1), .val (.int x2), .val (.int (if (2147483645 : Int32) < (x1 &&& (2147483647 : Int32)) then (2147483645 : Int32) else (x1 &&& (2147483647 : Int32)))), .val (.int (if ¬ ((x2 &&& (1 : Int32)) = (0 : Int32)) then (1 : Int32) else (0 : Int32))), .val (.int (if ¬ ((x2 &&& (2 : Int32)) = (0 : Int32)) then (1 : Int32) else (0 : Int32))), .val (.int (if ¬ ((x2 &&& (4 : Int32)) = (0 : Int32)) then (1 : Int32) else (0 : Int32))), .val (.ref b8), .val (.ref b12), .val (.ref b14), .val (.int (1 : Int32))] [(.int (1 : Int32)), (.int (if (2147483645 : Int32) < (x1 &&& (2147483647 : Int32)) then (2147483645 : Int32) else (x1 &&& (2147483647 : Int32)))), (.int ((if (2147483645 : Int32) < (x1 &&& (2147483647 : Int32)) then (2147483645 : Int32) else (x1 &&& (2147483647 : Int32))) + (1 : Int32)))])) _
    refine XS.iadd X16.here hx rfl (hb hby at_92) rfl ?_
    show Steps p.tables e below (T16.setTop (mkF m 93 #[.val (.int x1), .val (.int x2), .val (.int (if (2147483645 : Int32) < (x1 &&& (2147483647 : Int32)) then (2147483645 : Int32) else (x1 &&& (2147483647 : Int32)))), .val (.int (if ¬ ((x2 &&& (1 : Int32)) = (0 : Int32)) then (1 : Int32) else (0 : Int32))), .val (.int (if ¬ ((x2 &&& (2 : Int32)) = (0 : Int32)) then (1 : Int32) else (0 : Int32))), .val (.int (if ¬ ((x2 &&& (4 : Int32)) = (0 : Int32)) then (1 : Int32) else (0 : Int32))), .val (.ref b8), .val (.ref b12), .val (.ref b14), .val (.int (1 : Int32))] [(.int ((if (2147483645 : Int32) < (x1 &&& (2147483647 : Int32)) then (2147483645 : Int32) else (x1 &&& (2147483647 : Int32))) + (1 : Int32))), (.int ((if (2147483645 : Int32) < (x1 &&& (2147483647 : Int32)) then (2147483645 : Int32) else (x1 &&& (2147483647 : Int32))) + (1 : Int32)))])) _
    refine XS.icmpNo X16.here hx rfl (hb hby at_93) rfl (teq (rfl : ((if (2147483645 : Int32) < (x1 &&& (2147483647 : Int32)) then (2147483645 : Int32) else (x1 &&& (2147483647 : Int32))) + (1 : Int32)) = ((if (2147483645 : Int32) < (x1 &&& (2147483647 : Int32)) then (2147483645 : Int32) else (x1 &&& (2147483647 : Int32))) + (1 : Int32)))).2 ?_
    show Steps p.tables e below (T16.setTop (mkF m 96 #[.val (.int x1), .val (.int x2), .val (.int (if (2147483645 : Int32) < (x1 &&& (2147483647 : Int32)) then (2147483645 : Int32) else (x1 &&& (2147483647 : Int32)))), .val (.int (if ¬ ((x2 &&& (1 : Int32)) = (0 : Int32)) then (1 : Int32) else (0 : Int32))), .val (.int (if ¬ ((x2 &&& (2 : Int32)) = (0 : Int32)) then (1 : Int32) else (0 : Int32))), .val (.int (if ¬ ((x2 &&& (4 : Int32)) = (0 : Int32)) then (1 : Int32) else (0 : Int32))), .val (.ref b8), .val (.ref b12), .val (.ref b14), .val (.int (1 : Int32))] [])) _
    refine XS.iconst X16.here hx rfl (hb hby at_96) ?_
    show Steps p.tables e below (T16.setTop (mkF m 97 #[.val (.int x1), .val (.int x2), .val (.int (if (2147483645 : Int32) < (x1 &&& (2147483647 : Int32)) then (2147483645 : Int32) else (x1 &&& (2147483647 : Int32)))), .val (.int (if ¬ ((x2 &&& (1 : Int32)) = (0 : Int32)) then (1 : Int32) else (0 : Int32))), .val (.int (if ¬ ((x2 &&& (2 : Int32)) = (0 : Int32)) then (1 : Int32) else (0 : Int32))), .val (.int (if ¬ ((x2 &&& (4 : Int32)) = (0 : Int32)) then (1 : Int32) else (0 : Int32))), .val (.ref b8), .val (.ref b12), .val (.ref b14), .val (.int (1 : Int32))] [(.int (1 : Int32))])) _
    refine XS.goto X16.here hx rfl (pc0 := 97) (pc' := 101) rfl (hb hby at_97) (by decide) (by decide) ?_
    show Steps p.tables e below (T16.setTop (mkF m 101 #[.val (.int x1), .val (.int x2), .val (.int (if (2147483645 : Int32) < (x1 &&& (2147483647 : Int32)) then (2147483645 : Int32) else (x1 &&& (2147483647 : Int32)))), .val (.int (if ¬ ((x2 &&& (1 : Int32)) = (0 : Int32)) then (1 : Int32) else (0 : Int32))), .val (.int (if ¬ ((x2 &&& (2 : Int32)) = (0 : Int32)) then (1 : Int32) else (0 : Int32))), .val (.int (if ¬ ((x2 &&& (4 : Int32)) = (0 : Int32)) then (1 : Int32) else (0 : Int32))), .val (.ref b8), .val (.ref b12), .val (.ref b14), .val (.int (1 : Int32))] [(.int (1 : Int32))])) _
    refine XS.istore X16.here hx rfl (hb hby at_101) rfl (l' := #[.val (.int x1), .val (.int x2), .val (.int (if (2147483645 : Int32) < (x1 &&& (2147483647 : Int32)) then (2147483645 : Int32) else (x1 &&& (2147483647 : Int32)))), .val (.int (if ¬ ((x2 &&& (1 : Int32)) = (0 : Int32)) then (1 : Int32) else (0 : Int32))), .val (.int (if ¬ ((x2 &&& (2 : Int32)) = (0 : Int32)) then (1 : Int32) else (0 : Int32))), .val (.int (if ¬ ((x2 &&& (4 : Int32)) = (0 : Int32)) then (1 : Int32) else (0 : Int32))), .val (.ref b8), .val (.ref b12), .val (.ref b14), .val (.int (1 : Int32))]) rfl ?_
    show Steps p.tables e below (T16.setTop (mkF m 103 #[.val (.int x1), .val (.int x2), .val (.int (if (2147483645 : Int32) < (x1 &&& (2147483647 : Int32)) then (2147483645 : Int32) else (x1 &&& (2147483647 : Int32)))), .val (.int (if ¬ ((x2 &&& (1 : Int32)) = (0 : Int32)) then (1 : Int32) else (0 : Int32))), .val (.int (if ¬ ((x2 &&& (2 : Int32)) = (0 : Int32)) then (1 : Int32) else (0 : Int32))), .val (.int (if ¬ ((x2 &&& (4 : Int32)) = (0 : Int32)) then (1 : Int32) else (0 : Int32))), .val (.ref b8), .val (.ref b12), .val (.ref b14), .val (.int (1 : Int32))] [])) _
    refine XS.iload X16.here hx rfl (hb hby at_103) rfl ?_
    show Steps p.tables e below (T16.setTop (mkF m 105 #[.val (.int x1), .val (.int x2), .val (.int (if (2147483645 : Int32) < (x1 &&& (2147483647 : Int32)) then (2147483645 : Int32) else (x1 &&& (2147483647 : Int32)))), .val (.int (if ¬ ((x2 &&& (1 : Int32)) = (0 : Int32)) then (1 : Int32) else (0 : Int32))), .val (.int (if ¬ ((x2 &&& (2 : Int32)) = (0 : Int32)) then (1 : Int32) else (0 : Int32))), .val (.int (if ¬ ((x2 &&& (4 : Int32)) = (0 : Int32)) then (1 : Int32) else (0 : Int32))), .val (.ref b8), .val (.ref b12), .val (.ref b14), .val (.int (1 : Int32))] [(.int (1 : Int32))])) _
    refine XS.ifNo X16.here hx rfl (hb hby at_105) rfl ((if0 _ _).trans (feq (by decide : ¬ ((1 : Int32) = (0 : Int32)))).1) ?_
    show Steps p.tables e below (T16.setTop (mkF m 108 #[.val (.int x1), .val (.int x2), .val (.int (if (2147483645 : Int32) < (x1 &&& (2147483647 : Int32)) then (2147483645 : Int32) else (x1 &&& (2147483647 : Int32)))), .val (.int (if ¬ ((x2 &&& (1 : Int32)) = (0 : Int32)) then (1 : Int32) else (0 : Int32))), .val (.int (if ¬ ((x2 &&& (2 : Int32)) = (0 : Int32)) then (1 : Int32) else (0 : Int32))), .val (.int (if ¬ ((x2 &&& (4 : Int32)) = (0 : Int32)) then (1 : Int32) else (0 : Int32))), .val (.ref b8), .val (.ref b12), .val (.ref b14), .val (.int (1 : Int32))] [])) _
    refine XS.aload X16.here hx rfl (hb hby at_108) rfl rfl ?_
    show Steps p.tables e below (T16.setTop (mkF m 110 #[.val (.int x1), .val (.int x2), .val (.int (if (2147483645 : Int32) < (x1 &&& (2147483647 : Int32)) then (2147483645 : Int32) else (x1 &&& (2147483647 : Int32)))), .val (.int (if ¬ ((x2 &&& (1 : Int32)) = (0 : Int32)) then (1 : Int32) else (0 : Int32))), .val (.int (if ¬ ((x2 &&& (2 : Int32)) = (0 : Int32)) then (1 : Int32) else (0 : Int32))), .val (.int (if ¬ ((x2 &&& (4 : Int32)) = (0 : Int32)) then (1 : Int32) else (0 : Int32))), .val (.ref b8), .val (.ref b12), .val (.ref b14), .val (.int (1 : Int32))] [(.ref b12)])) _
    refine st17.trans ?_
    show Steps p.tables e below (T17.setTop (mkF m 113 #[.val (.int x1), .val (.int x2), .val (.int (if (2147483645 : Int32) < (x1 &&& (2147483647 : Int32)) then (2147483645 : Int32) else (x1 &&& (2147483647 : Int32)))), .val (.int (if ¬ ((x2 &&& (1 : Int32)) = (0 : Int32)) then (1 : Int32) else (0 : Int32))), .val (.int (if ¬ ((x2 &&& (2 : Int32)) = (0 : Int32)) then (1 : Int32) else (0 : Int32))), .val (.int (if ¬ ((x2 &&& (4 : Int32)) = (0 : Int32)) then (1 : Int32) else (0 : Int32))), .val (.ref b8), .val (.ref b12), .val (.ref b14), .val (.int (1 : Int32))] [(.int (if (if ¬ ((x2 &&& (1 : Int32)) = (0 : Int32)) then (1 : Int32) else (0 : Int32)) = (0 : Int32) then (if ¬ ((if ¬ ((x2 &&& (2 : Int32)) = (0 : Int32)) then (1 : Int32) else (0 : Int32)) = (0 : Int32)) then (1 : Int32) else (0 : Int32)) else (1 : Int32)))])) _
    refine XS.iloadN X17.here hx rfl (hb hby at_113) rfl ?_
    show Steps p.tables e below (T17.setTop (mkF m 114 #[.val (.int x1), .val (.int x2), .val (.int (if (2147483645 : Int32) < (x1 &&& (2147483647 : Int32)) then (2147483645 : Int32) else (x1 &&& (2147483647 : Int32)))), .val (.int (if ¬ ((x2 &&& (1 : Int32)) = (0 : Int32)) then (1 : Int32) else (0 : Int32))), .val (.int (if ¬ ((x2 &&& (2 : Int32)) = (0 : Int32)) then (1 : Int32) else (0 : Int32))), .val (.int (if ¬ ((x2 &&& (4 : Int32)) = (0 : Int32)) then (1 : Int32) else (0 : Int32))), .val (.ref b8), .val (.ref b12), .val (.ref b14), .val (.int (1 : Int32))] [(.int (if ¬ ((x2 &&& (1 : Int32)) = (0 : Int32)) then (1 : Int32) else (0 : Int32))), (.int (if (if ¬ ((x2 &&& (1 : Int32)) = (0 : Int32)) then (1 : Int32) else (0 : Int32)) = (0 : Int32) then (if ¬ ((if ¬ ((x2 &&& (2 : Int32)) = (0 : Int32)) then (1 : Int32) else (0 : Int32)) = (0 : Int32)) then (1 : Int32) else (0 : Int32)) else (1 : Int32)))])) _
    by_cases hc18 : ¬ ((x2 &&& (1 : Int32)) = (0 : Int32))
    · skip
      refine XS.ifYes X17.here hx rfl (pc0 := 114) (pc' := 122) rfl (hb hby at_114) rfl ((if0 _ _).trans (feq (fun q => absurd ((if_pos hc18).symm.trans q) (by decide))).2) (by decide) (by decide) ?_
      show Steps p.tables e below (T17.setTop (mkF m 122 #[.val (.int x1), .val (.int x2), .val (.int (if (2147483645 : Int32) < (x1 &&& (2147483647 : Int32)) then (2147483645 : Int32) else (x1 &&& (2147483647 : Int32)))), .val (.int (if ¬ ((x2 &&& (1 : Int32)) = (0 : Int32)) then (1 : Int32) else (0 : Int32))), .val (.int (if ¬ ((x2 &&& (2 : Int32)) = (0 : Int32)) then (1 : Int32) else (0 : Int32))), .val (.int (if ¬ ((x2 &&& (4 : Int32)) = (0 : Int32)) then (1 : Int32) else (0 : Int32))), .val (.ref b8), .val (.ref b12), .val (.ref b14), .val (.int (1 : Int32))] [(.int (if (if ¬ ((x2 &&& (1 : Int32)) = (0 : Int32)) then (1 : Int32) else (0 : Int32)) = (0 : Int32) then (if ¬ ((if ¬ ((x2 &&& (2 : Int32)) = (0 : Int32)) then (1 : Int32) else (0 : Int32)) = (0 : Int32)) then (1 : Int32) else (0 : Int32)) else (1 : Int32)))])) _
      refine XS.iconst X17.here hx rfl (hb hby at_122) ?_
      show Steps p.tables e below (T17.setTop (mkF m 123 #[.val (.int x1), .val (.int x2), .val (.int (if (2147483645 : Int32) < (x1 &&& (2147483647 : Int32)) then (2147483645 : Int32) else (x1 &&& (2147483647 : Int32)))), .val (.int (if ¬ ((x2 &&& (1 : Int32)) = (0 : Int32)) then (1 : Int32) else (0 : Int32))), .val (.int (if ¬ ((x2 &&& (2 : Int32)) = (0 : Int32)) then (1 : Int32) else (0 : Int32))), .val (.int (if ¬ ((x2 &&& (4 : Int32)) = (0 : Int32)) then (1 : Int32) else (0 : Int32))), .val (.ref b8), .val (.ref b12), .val (.ref b14), .val (.int (1 : Int32))] [(.int (1 : Int32)), (.int (if (if ¬ ((x2 &&& (1 : Int32)) = (0 : Int32)) then (1 : Int32) else (0 : Int32)) = (0 : Int32) then (if ¬ ((if ¬ ((x2 &&& (2 : Int32)) = (0 : Int32)) then (1 : Int32) else (0 : Int32)) = (0 : Int32)) then (1 : Int32) else (0 : Int32)) else (1 : Int32)))])) _
      refine XS.goto X17.here hx rfl (pc0 := 123) (pc' := 127) rfl (hb hby at_123) (by decide) (by decide) ?_
      exact castTop (congrArg (fun z_ => (mkF m 127 #[.val (.int x1), .val (.int x2), .val (.int (if (2147483645 : Int32) < (x1 &&& (2147483647 : Int32)) then (2147483645 : Int32) else (x1 &&& (2147483647 : Int32)))), .val (.int (if ¬ ((x2 &&& (1 : Int32)) = (0 : Int32)) then (1 : Int32) else (0 : Int32))), .val (.int (if ¬ ((x2 &&& (2 : Int32)) = (0 : Int32)) then (1 : Int32) else (0 : Int32))), .val (.int (if ¬ ((x2 &&& (4 : Int32)) = (0 : Int32)) then (1 : Int32) else (0 : Int32))), .val (.ref b8), .val (.ref b12), .val (.ref b14), .val (.int (1 : Int32))] [(.int z_), (.int (if (if ¬ ((x2 &&& (1 : Int32)) = (0 : Int32)) then (1 : Int32) else (0 : Int32)) = (0 : Int32) then (if ¬ ((if ¬ ((x2 &&& (2 : Int32)) = (0 : Int32)) then (1 : Int32) else (0 : Int32)) = (0 : Int32)) then (1 : Int32) else (0 : Int32)) else (1 : Int32)))])) (show (1 : Int32) = (if ¬ ((x2 &&& (1 : Int32)) = (0 : Int32)) then (1 : Int32) else (if ¬ ((x2 &&& (2 : Int32)) = (0 : Int32)) then (1 : Int32) else (0 : Int32))) from by rw [if_pos hc18])) k
    · skip
      refine XS.ifNo X17.here hx rfl (hb hby at_114) rfl ((if0 _ _).trans (teq (if_neg hc18)).2) ?_
      show Steps p.tables e below (T17.setTop (mkF m 117 #[.val (.int x1), .val (.int x2), .val (.int (if (2147483645 : Int32) < (x1 &&& (2147483647 : Int32)) then (2147483645 : Int32) else (x1 &&& (2147483647 : Int32)))), .val (.int (if ¬ ((x2 &&& (1 : Int32)) = (0 : Int32)) then (1 : Int32) else (0 : Int32))), .val (.int (if ¬ ((x2 &&& (2 : Int32)) = (0 : Int32)) then (1 : Int32) else (0 : Int32))), .val (.int (if ¬ ((x2 &&& (4 : Int32)) = (0 : Int32)) then (1 : Int32) else (0 : Int32))), .val (.ref b8), .val (.ref b12), .val (.ref b14), .val (.int (1 : Int32))] [(.int (if (if ¬ ((x2 &&& (1 : Int32)) = (0 : Int32)) then (1 : Int32) else (0 : Int32)) = (0 : Int32) then (if ¬ ((if ¬ ((x2 &&& (2 : Int32)) = (0 : Int32)) then (1 : Int32) else (0 : Int32)) = (0 : Int32)) then (1 : Int32) else (0 : Int32)) else (1 : Int32)))])) _
      refine XS.iload X17.here hx rfl (hb hby at_117) rfl ?_
      show Steps p.tables e below (T17.setTop (mkF m 119 #[.val (.int x1), .val (.int x2), .val (.int (if (2147483645 : Int32) < (x1 &&& (2147483647 : Int32)) then (2147483645 : Int32) else (x1 &&& (2147483647 : Int32)))), .val (.int (if ¬ ((x2 &&& (1 : Int32)) = (0 : Int32)) then (1 : Int32) else (0 : Int32))), .val (.int (if ¬ ((x2 &&& (2 : Int32)) = (0 : Int32)) then (1 : Int32) else (0 : Int32))), .val (.int (if ¬ ((x2 &&& (4 : Int32)) = (0 : Int32)) then (1 : Int32) else (0 : Int32))), .val (.ref b8), .val (.ref b12), .val (.ref b14), .val (.int (1 : Int32))] [(.int (if ¬ ((x2 &&& (2 : Int32)) = (0 : Int32)) then (1 : Int32) else (0 : Int32))), (.int (if (if ¬ ((x2 &&& (1 : Int32)) = (0 : Int32)) then (1 : Int32) else (0 : Int32)) = (0 : Int32) then (if ¬ ((if ¬ ((x2 &&& (2 : Int32)) = (0 : Int32)) then (1 : Int32) else (0 : Int32)) = (0 : Int32)) then (1 : Int32) else (0 : Int32)) else (1 : Int32)))])) _
      by_cases hc19 : ¬ ((x2 &&& (2 : Int32)) = (0 : Int32))
      · skip
        refine XS.ifNo X17.here hx rfl (hb hby at_119) rfl ((if0 _ _).trans (feq (fun q => absurd ((if_pos hc19).symm.trans q) (by decide))).1) ?_
        show Steps p.tables e below (T17.setTop (mkF m 122 #[.val (.int x1), .val (.int x2), .val (.int (if (2147483645 : Int32) < (x1 &&& (2147483647 : Int32)) then (2147483645 : Int32) else (x1 &&& (2147483647 : Int32)))), .val (.int (if ¬ ((x2 &&& (1 : Int32)) = (0 : Int32)) then (1 : Int32) else (0 : Int32))), .val (.int (if ¬ ((x2 &&& (2 : Int32)) = (0 : Int32)) then (1 : Int32) else (0 : Int32))), .val (.int (if ¬ ((x2 &&& (4 : Int32)) = (0 : Int32)) then (1 : Int32) else (0 : Int32))), .val (.ref b8), .val (.ref b12), .val (.ref b14), .val (.int (1 : Int32))] [(.int (if (if ¬ ((x2 &&& (1 : Int32)) = (0 : Int32)) then (1 : Int32) else (0 : Int32)) = (0 : Int32) then (if ¬ ((if ¬ ((x2 &&& (2 : Int32)) = (0 : Int32)) then (1 : Int32) else (0 : Int32)) = (0 : Int32)) then (1 : Int32) else (0 : Int32)) else (1 : Int32)))])) _
        refine XS.iconst X17.here hx rfl (hb hby at_122) ?_
        show Steps p.tables e below (T17.setTop (mkF m 123 #[.val (.int x1), .val (.int x2), .val (.int (if (2147483645 : Int32) < (x1 &&& (2147483647 : Int32)) then (2147483645 : Int32) else (x1 &&& (2147483647 : Int32)))), .val (.int (if ¬ ((x2 &&& (1 : Int32)) = (0 : Int32)) then (1 : Int32) else (0 : Int32))), .val (.int (if ¬ ((x2 &&& (2 : Int32)) = (0 : Int32)) then (1 : Int32) else (0 : Int32))), .val (.int (if ¬ ((x2 &&& (4 : Int32)) = (0 : Int32)) then (1 : Int32) else (0 : Int32))), .val (.ref b8), .val (.ref b12), .val (.ref b14), .val (.int (1 : Int32))] [(.int (1 : Int32)), (.int (if (if ¬ ((x2 &&& (1 : Int32)) = (0 : Int32)) then (1 : Int32) else (0 : Int32)) = (0 : Int32) then (if ¬ ((if ¬ ((x2 &&& (2 : Int32)) = (0 : Int32)) then (1 : Int32) else (0 : Int32)) = (0 : Int32)) then (1 : Int32) else (0 : Int32)) else (1 : Int32)))])) _
        refine XS.goto X17.here hx rfl (pc0 := 123) (pc' := 127) rfl (hb hby at_123) (by decide) (by decide) ?_
        exact castTop (congrArg (fun z_ => (mkF m 127 #[.val (.int x1), .val (.int x2), .val (.int (if (2147483645 : Int32) < (x1 &&& (2147483647 : Int32)) then (2147483645 : Int32) else (x1 &&& (2147483647 : Int32)))), .val (.int (if ¬ ((x2 &&& (1 : Int32)) = (0 : Int32)) then (1 : Int32) else (0 : Int32))), .val (.int (if ¬ ((x2 &&& (2 : Int32)) = (0 : Int32)) then (1 : Int32) else (0 : Int32))), .val (.int (if ¬ ((x2 &&& (4 : Int32)) = (0 : Int32)) then (1 : Int32) else (0 : Int32))), .val (.ref b8), .val (.ref b12), .val (.ref b14), .val (.int (1 : Int32))] [(.int z_), (.int (if (if ¬ ((x2 &&& (1 : Int32)) = (0 : Int32)) then (1 : Int32) else (0 : Int32)) = (0 : Int32) then (if ¬ ((if ¬ ((x2 &&& (2 : Int32)) = (0 : Int32)) then (1 : Int32) else (0 : Int32)) = (0 : Int32)) then (1 : Int32) else (0 : Int32)) else (1 : Int32)))])) (show (1 : Int32) = (if ¬ ((x2 &&& (1 : Int32)) = (0 : Int32)) then (1 : Int32) else (if ¬ ((x2 &&& (2 : Int32)) = (0 : Int32)) then (1 : Int32) else (0 : Int32))) from by rw [if_neg hc18, if_pos hc19])) k
      · skip
        refine XS.ifYes X17.here hx rfl (pc0 := 119) (pc' := 126) rfl (hb hby at_119) rfl ((if0 _ _).trans (teq (if_neg hc19)).1) (by decide) (by decide) ?_
        show Steps p.tables e below (T17.setTop (mkF m 126 #[.val (.int x1), .val (.int x2), .val (.int (if (2147483645 : Int32) < (x1 &&& (2147483647 : Int32)) then (2147483645 : Int32) else (x1 &&& (2147483647 : Int32)))), .val (.int (if ¬ ((x2 &&& (1 : Int32)) = (0 : Int32)) then (1 : Int32) else (0 : Int32))), .val (.int (if ¬ ((x2 &&& (2 : Int32)) = (0 : Int32)) then (1 : Int32) else (0 : Int32))), .val (.int (if ¬ ((x2 &&& (4 : Int32)) = (0 : Int32)) then (1 : Int32) else (0 : Int32))), .val (.ref b8), .val (.ref b12), .val (.ref b14), .val (.int (1 : Int32))] [(.int (if (if ¬ ((x2 &&& (1 : Int32)) = (0 : Int32)) then (1 : Int32) else (0 : Int32)) = (0 : Int32) then (if ¬ ((if ¬ ((x2 &&& (2 : Int32)) = (0 : Int32)) then (1 : Int32) else (0 : Int32)) = (0 : Int32)) then (1 : Int32) else (0 : Int32)) else (1 : Int32)))])) _
        refine XS.iconst X17.here hx rfl (hb hby at_126) ?_
        exact castTop (congrArg (fun z_ => (mkF m 127 #[.val (.int x1), .val (.int x2), .val (.int (if (2147483645 : Int32) < (x1 &&& (2147483647 : Int32)) then (2147483645 : Int32) else (x1 &&& (2147483647 : Int32)))), .val (.int (if ¬ ((x2 &&& (1 : Int32)) = (0 : Int32)) then (1 : Int32) else (0 : Int32))), .val (.int (if ¬ ((x2 &&& (2 : Int32)) = (0 : Int32)) then (1 : Int32) else (0 : Int32))), .val (.int (if ¬ ((x2 &&& (4 : Int32)) = (0 : Int32)) then (1 : Int32) else (0 : Int32))), .val (.ref b8), .val (.ref b12), .val (.ref b14), .val (.int (1 : Int32))] [(.int z_), (.int (if (if ¬ ((x2 &&& (1 : Int32)) = (0 : Int32)) then (1 : Int32) else (0 : Int32)) = (0 : Int32) then (if ¬ ((if ¬ ((x2 &&& (2 : Int32)) = (0 : Int32)) then (1 : Int32) else (0 : Int32)) = (0 : Int32)) then (1 : Int32) else (0 : Int32)) else (1 : Int32)))])) (show (0 : Int32) = (if ¬ ((x2 &&& (1 : Int32)) = (0 : Int32)) then (1 : Int32) else (if ¬ ((x2 &&& (2 : Int32)) = (0 : Int32)) then (1 : Int32) else (0 : Int32))) from by rw [if_neg hc18, if_neg hc19])) k)
  obtain ⟨cq21, kq21, q21a, q21b, q21c⟩ := isOf hZ e17 Ee14
  obtain ⟨_, _, ⟨T21, L21, k21, n21⟩, -, X21, ⟨Lc21, hQ21, l21, y21, z21⟩, st21⟩ := X17.virtualBack hx (y := (⟨"com/example/millrace/millrace/engine/Arrivals", "count", "()I"⟩ : MethodName)) (z := (⟨"com/example/millrace/millrace/engine/Arrivals", "count", "()I"⟩ : MethodName)) hown (mvT hZ (hw _ (List.mem_of_getElem? (i := 26) rfl))) (mvT hZ (hw _ (List.mem_of_getElem? (i := 27) rfl))) (notFace_of_selects (args := #[]) (mvT hZ (hw _ (List.mem_of_getElem? (i := 29) rfl)))) (mvT hZ (hw _ (List.mem_of_getElem? (i := 29) rfl))) (mvT hZ (hw _ (List.mem_of_getElem? (i := 28) rfl))) (by decide) (backOf (W := 0) (own_count l Z a0 hw [] b14 (((if (2147483645 : Int32) < (x1 &&& (2147483647 : Int32)) then (2147483645 : Int32) else (x1 &&& (2147483647 : Int32))) + (1 : Int32)) + (1 : Int32)) T14.heap n0 Z15 Fc14) hZ (hw _ (List.mem_of_getElem? (i := 30) rfl)) (hw _ (List.mem_of_getElem? (i := 8) rfl)) (by decide) (by decide)) q21a q21c (g := (mkF m 144 #[.val (.int x1), .val (.int x2), .val (.int (if (2147483645 : Int32) < (x1 &&& (2147483647 : Int32)) then (2147483645 : Int32) else (x1 &&& (2147483647 : Int32)))), .val (.int (if ¬ ((x2 &&& (1 : Int32)) = (0 : Int32)) then (1 : Int32) else (0 : Int32))), .val (.int (if ¬ ((x2 &&& (2 : Int32)) = (0 : Int32)) then (1 : Int32) else (0 : Int32))), .val (.int (if ¬ ((x2 &&& (4 : Int32)) = (0 : Int32)) then (1 : Int32) else (0 : Int32))), .val (.ref b8), .val (.ref b12), .val (.ref b14), .val (.int (1 : Int32))] [(.ref b14)])) rfl (by rw [hml]; rfl) (Steps.refl _) (argsL := []) (rest := []) (lenOf own_pd3 rfl) rfl (by show 2 * 0 + _ ≤ _; exact Nat.le_of_eq rfl) (hb hby at_144) (fun _ _ => ⟨rfl, e17, (by decide : 3 + 0 ≤ _), (by decide : 6 + 0 ≤ _)⟩)
  dsimp only [Pt.U, Pt.locs, Pt.cells, Pt.slots] at X21 l21 y21 z21 st21 hQ21
  subst l21 y21 z21
  obtain ⟨rfl, N21q, e21⟩ := hQ21
  have N21 := Fr.app N17 N21q
  obtain ⟨cq22, kq22, q22a, q22b, q22c⟩ := isOf hZ e21 Ee14
  obtain ⟨_, _, ⟨T22, L22, k22, n22⟩, -, X22, ⟨Lc22, hQ22, l22, y22, z22⟩, st22⟩ := X21.virtualBack hx (y := (⟨"com/example/millrace/millrace/engine/Arrivals", "live", "()Z"⟩ : MethodName)) (z := (⟨"com/example/millrace/millrace/engine/Arrivals", "live", "()Z"⟩ : MethodName)) hown (mvT hZ (hw _ (List.mem_of_getElem? (i := 31) rfl))) (mvT hZ (hw _ (List.mem_of_getElem? (i := 32) rfl))) (notFace_of_selects (args := #[]) (mvT hZ (hw _ (List.mem_of_getElem? (i := 34) rfl)))) (mvT hZ (hw _ (List.mem_of_getElem? (i := 34) rfl))) (mvT hZ (hw _ (List.mem_of_getElem? (i := 33) rfl))) (by decide) (backOf (W := 0) (own_live l Z a0 hw [] b14 (if (if (if ¬ ((x2 &&& (1 : Int32)) = (0 : Int32)) then (1 : Int32) else (0 : Int32)) = (0 : Int32) then (if ¬ ((if ¬ ((x2 &&& (2 : Int32)) = (0 : Int32)) then (1 : Int32) else (0 : Int32)) = (0 : Int32)) then (1 : Int32) else (0 : Int32)) else (1 : Int32)) = (0 : Int32) then (if ¬ ((if ¬ ((x2 &&& (4 : Int32)) = (0 : Int32)) then (1 : Int32) else (0 : Int32)) = (0 : Int32)) then (1 : Int32) else (0 : Int32)) else (1 : Int32)) T14.heap n0 Z15 Fl14 own_n01) hZ (hw _ (List.mem_of_getElem? (i := 35) rfl)) (hw _ (List.mem_of_getElem? (i := 8) rfl)) (by decide) (by decide)) q22a q22c (g := (mkF m 167 #[.val (.int x1), .val (.int x2), .val (.int (if (2147483645 : Int32) < (x1 &&& (2147483647 : Int32)) then (2147483645 : Int32) else (x1 &&& (2147483647 : Int32)))), .val (.int (if ¬ ((x2 &&& (1 : Int32)) = (0 : Int32)) then (1 : Int32) else (0 : Int32))), .val (.int (if ¬ ((x2 &&& (2 : Int32)) = (0 : Int32)) then (1 : Int32) else (0 : Int32))), .val (.int (if ¬ ((x2 &&& (4 : Int32)) = (0 : Int32)) then (1 : Int32) else (0 : Int32))), .val (.ref b8), .val (.ref b12), .val (.ref b14), .val (.int (1 : Int32))] [(.ref b14)])) rfl (by rw [hml]; rfl) (Steps.refl _) (argsL := []) (rest := []) (lenOf own_pd4 rfl) rfl (by show 2 * 0 + _ ≤ _; exact Nat.le_of_eq rfl) (hb hby at_167) (fun _ _ => ⟨rfl, e21, (by decide : 3 + 0 ≤ _), (by decide : 6 + 0 ≤ _)⟩)
  dsimp only [Pt.U, Pt.locs, Pt.cells, Pt.slots] at X22 l22 y22 z22 st22 hQ22
  subst l22 y22 z22
  obtain ⟨rfl, N22q, e22⟩ := hQ22
  have N22 := Fr.app N21 N22q
  have pre26 : ∀ t, Steps p.tables e below (T22.setTop (mkF m 189 #[.val (.int x1), .val (.int x2), .val (.int (if (2147483645 : Int32) < (x1 &&& (2147483647 : Int32)) then (2147483645 : Int32) else (x1 &&& (2147483647 : Int32)))), .val (.int (if ¬ ((x2 &&& (1 : Int32)) = (0 : Int32)) then (1 : Int32) else (0 : Int32))), .val (.int (if ¬ ((x2 &&& (2 : Int32)) = (0 : Int32)) then (1 : Int32) else (0 : Int32))), .val (.int (if ¬ ((x2 &&& (4 : Int32)) = (0 : Int32)) then (1 : Int32) else (0 : Int32))), .val (.ref b8), .val (.ref b12), .val (.ref b14), .val (.int (1 : Int32))] [(.int (if ¬ ((x2 &&& (1 : Int32)) = (0 : Int32)) then (1 : Int32) else (if ¬ ((x2 &&& (2 : Int32)) = (0 : Int32)) then (1 : Int32) else (if ¬ ((x2 &&& (4 : Int32)) = (0 : Int32)) then (1 : Int32) else (0 : Int32))))), (.int (if (if (if ¬ ((x2 &&& (1 : Int32)) = (0 : Int32)) then (1 : Int32) else (0 : Int32)) = (0 : Int32) then (if ¬ ((if ¬ ((x2 &&& (2 : Int32)) = (0 : Int32)) then (1 : Int32) else (0 : Int32)) = (0 : Int32)) then (1 : Int32) else (0 : Int32)) else (1 : Int32)) = (0 : Int32) then (if ¬ ((if ¬ ((x2 &&& (4 : Int32)) = (0 : Int32)) then (1 : Int32) else (0 : Int32)) = (0 : Int32)) then (1 : Int32) else (0 : Int32)) else (1 : Int32)))])) t → Steps p.tables e below (s₁.setTop (entryFrame m #[(.int x1), (.int x2)] maxLocals)) t := fun t k => pre20 t (by
    show Steps p.tables e below (T17.setTop (mkF m 127 #[.val (.int x1), .val (.int x2), .val (.int (if (2147483645 : Int32) < (x1 &&& (2147483647 : Int32)) then (2147483645 : Int32) else (x1 &&& (2147483647 : Int32)))), .val (.int (if ¬ ((x2 &&& (1 : Int32)) = (0 : Int32)) then (1 : Int32) else (0 : Int32))), .val (.int (if ¬ ((x2 &&& (2 : Int32)) = (0 : Int32)) then (1 : Int32) else (0 : Int32))), .val (.int (if ¬ ((x2 &&& (4 : Int32)) = (0 : Int32)) then (1 : Int32) else (0 : Int32))), .val (.ref b8), .val (.ref b12), .val (.ref b14), .val (.int (1 : Int32))] [(.int (if ¬ ((x2 &&& (1 : Int32)) = (0 : Int32)) then (1 : Int32) else (if ¬ ((x2 &&& (2 : Int32)) = (0 : Int32)) then (1 : Int32) else (0 : Int32)))), (.int (if (if ¬ ((x2 &&& (1 : Int32)) = (0 : Int32)) then (1 : Int32) else (0 : Int32)) = (0 : Int32) then (if ¬ ((if ¬ ((x2 &&& (2 : Int32)) = (0 : Int32)) then (1 : Int32) else (0 : Int32)) = (0 : Int32)) then (1 : Int32) else (0 : Int32)) else (1 : Int32)))])) _
    refine XS.icmpNo X17.here hx rfl (hb hby at_127) rfl (teq (by by_cases hA : (x2 &&& (1 : Int32)) = (0 : Int32) <;> by_cases hB : (x2 &&& (2 : Int32)) = (0 : Int32) <;> by_cases hD : (x2 &&& (4 : Int32)) = (0 : Int32) <;> simp [hA, hB, hD] : (if (if ¬ ((x2 &&& (1 : Int32)) = (0 : Int32)) then (1 : Int32) else (0 : Int32)) = (0 : Int32) then (if ¬ ((if ¬ ((x2 &&& (2 : Int32)) = (0 : Int32)) then (1 : Int32) else (0 : Int32)) = (0 : Int32)) then (1 : Int32) else (0 : Int32)) else (1 : Int32)) = (if ¬ ((x2 &&& (1 : Int32)) = (0 : Int32)) then (1 : Int32) else (if ¬ ((x2 &&& (2 : Int32)) = (0 : Int32)) then (1 : Int32) else (0 : Int32))))).2 ?_
    show Steps p.tables e below (T17.setTop (mkF m 130 #[.val (.int x1), .val (.int x2), .val (.int (if (2147483645 : Int32) < (x1 &&& (2147483647 : Int32)) then (2147483645 : Int32) else (x1 &&& (2147483647 : Int32)))), .val (.int (if ¬ ((x2 &&& (1 : Int32)) = (0 : Int32)) then (1 : Int32) else (0 : Int32))), .val (.int (if ¬ ((x2 &&& (2 : Int32)) = (0 : Int32)) then (1 : Int32) else (0 : Int32))), .val (.int (if ¬ ((x2 &&& (4 : Int32)) = (0 : Int32)) then (1 : Int32) else (0 : Int32))), .val (.ref b8), .val (.ref b12), .val (.ref b14), .val (.int (1 : Int32))] [])) _
    refine XS.iconst X17.here hx rfl (hb hby at_130) ?_
    show Steps p.tables e below (T17.setTop (mkF m 131 #[.val (.int x1), .val (.int x2), .val (.int (if (2147483645 : Int32) < (x1 &&& (2147483647 : Int32)) then (2147483645 : Int32) else (x1 &&& (2147483647 : Int32)))), .val (.int (if ¬ ((x2 &&& (1 : Int32)) = (0 : Int32)) then (1 : Int32) else (0 : Int32))), .val (.int (if ¬ ((x2 &&& (2 : Int32)) = (0 : Int32)) then (1 : Int32) else (0 : Int32))), .val (.int (if ¬ ((x2 &&& (4 : Int32)) = (0 : Int32)) then (1 : Int32) else (0 : Int32))), .val (.ref b8), .val (.ref b12), .val (.ref b14), .val (.int (1 : Int32))] [(.int (1 : Int32))])) _
    refine XS.goto X17.here hx rfl (pc0 := 131) (pc' := 135) rfl (hb hby at_131) (by decide) (by decide) ?_
    show Steps p.tables e below (T17.setTop (mkF m 135 #[.val (.int x1), .val (.int x2), .val (.int (if (2147483645 : Int32) < (x1 &&& (2147483647 : Int32)) then (2147483645 : Int32) else (x1 &&& (2147483647 : Int32)))), .val (.int (if ¬ ((x2 &&& (1 : Int32)) = (0 : Int32)) then (1 : Int32) else (0 : Int32))), .val (.int (if ¬ ((x2 &&& (2 : Int32)) = (0 : Int32)) then (1 : Int32) else (0 : Int32))), .val (.int (if ¬ ((x2 &&& (4 : Int32)) = (0 : Int32)) then (1 : Int32) else (0 : Int32))), .val (.ref b8), .val (.ref b12), .val (.ref b14), .val (.int (1 : Int32))] [(.int (1 : Int32))])) _
    refine XS.istore X17.here hx rfl (hb hby at_135) rfl (l' := #[.val (.int x1), .val (.int x2), .val (.int (if (2147483645 : Int32) < (x1 &&& (2147483647 : Int32)) then (2147483645 : Int32) else (x1 &&& (2147483647 : Int32)))), .val (.int (if ¬ ((x2 &&& (1 : Int32)) = (0 : Int32)) then (1 : Int32) else (0 : Int32))), .val (.int (if ¬ ((x2 &&& (2 : Int32)) = (0 : Int32)) then (1 : Int32) else (0 : Int32))), .val (.int (if ¬ ((x2 &&& (4 : Int32)) = (0 : Int32)) then (1 : Int32) else (0 : Int32))), .val (.ref b8), .val (.ref b12), .val (.ref b14), .val (.int (1 : Int32))]) rfl ?_
    show Steps p.tables e below (T17.setTop (mkF m 137 #[.val (.int x1), .val (.int x2), .val (.int (if (2147483645 : Int32) < (x1 &&& (2147483647 : Int32)) then (2147483645 : Int32) else (x1 &&& (2147483647 : Int32)))), .val (.int (if ¬ ((x2 &&& (1 : Int32)) = (0 : Int32)) then (1 : Int32) else (0 : Int32))), .val (.int (if ¬ ((x2 &&& (2 : Int32)) = (0 : Int32)) then (1 : Int32) else (0 : Int32))), .val (.int (if ¬ ((x2 &&& (4 : Int32)) = (0 : Int32)) then (1 : Int32) else (0 : Int32))), .val (.ref b8), .val (.ref b12), .val (.ref b14), .val (.int (1 : Int32))] [])) _
    refine XS.iload X17.here hx rfl (hb hby at_137) rfl ?_
    show Steps p.tables e below (T17.setTop (mkF m 139 #[.val (.int x1), .val (.int x2), .val (.int (if (2147483645 : Int32) < (x1 &&& (2147483647 : Int32)) then (2147483645 : Int32) else (x1 &&& (2147483647 : Int32)))), .val (.int (if ¬ ((x2 &&& (1 : Int32)) = (0 : Int32)) then (1 : Int32) else (0 : Int32))), .val (.int (if ¬ ((x2 &&& (2 : Int32)) = (0 : Int32)) then (1 : Int32) else (0 : Int32))), .val (.int (if ¬ ((x2 &&& (4 : Int32)) = (0 : Int32)) then (1 : Int32) else (0 : Int32))), .val (.ref b8), .val (.ref b12), .val (.ref b14), .val (.int (1 : Int32))] [(.int (1 : Int32))])) _
    refine XS.ifNo X17.here hx rfl (hb hby at_139) rfl ((if0 _ _).trans (feq (by decide : ¬ ((1 : Int32) = (0 : Int32)))).1) ?_
    show Steps p.tables e below (T17.setTop (mkF m 142 #[.val (.int x1), .val (.int x2), .val (.int (if (2147483645 : Int32) < (x1 &&& (2147483647 : Int32)) then (2147483645 : Int32) else (x1 &&& (2147483647 : Int32)))), .val (.int (if ¬ ((x2 &&& (1 : Int32)) = (0 : Int32)) then (1 : Int32) else (0 : Int32))), .val (.int (if ¬ ((x2 &&& (2 : Int32)) = (0 : Int32)) then (1 : Int32) else (0 : Int32))), .val (.int (if ¬ ((x2 &&& (4 : Int32)) = (0 : Int32)) then (1 : Int32) else (0 : Int32))), .val (.ref b8), .val (.ref b12), .val (.ref b14), .val (.int (1 : Int32))] [])) _
    refine XS.aload X17.here hx rfl (hb hby at_142) rfl rfl ?_
    show Steps p.tables e below (T17.setTop (mkF m 144 #[.val (.int x1), .val (.int x2), .val (.int (if (2147483645 : Int32) < (x1 &&& (2147483647 : Int32)) then (2147483645 : Int32) else (x1 &&& (2147483647 : Int32)))), .val (.int (if ¬ ((x2 &&& (1 : Int32)) = (0 : Int32)) then (1 : Int32) else (0 : Int32))), .val (.int (if ¬ ((x2 &&& (2 : Int32)) = (0 : Int32)) then (1 : Int32) else (0 : Int32))), .val (.int (if ¬ ((x2 &&& (4 : Int32)) = (0 : Int32)) then (1 : Int32) else (0 : Int32))), .val (.ref b8), .val (.ref b12), .val (.ref b14), .val (.int (1 : Int32))] [(.ref b14)])) _
    refine st21.trans ?_
    show Steps p.tables e below (T21.setTop (mkF m 147 #[.val (.int x1), .val (.int x2), .val (.int (if (2147483645 : Int32) < (x1 &&& (2147483647 : Int32)) then (2147483645 : Int32) else (x1 &&& (2147483647 : Int32)))), .val (.int (if ¬ ((x2 &&& (1 : Int32)) = (0 : Int32)) then (1 : Int32) else (0 : Int32))), .val (.int (if ¬ ((x2 &&& (2 : Int32)) = (0 : Int32)) then (1 : Int32) else (0 : Int32))), .val (.int (if ¬ ((x2 &&& (4 : Int32)) = (0 : Int32)) then (1 : Int32) else (0 : Int32))), .val (.ref b8), .val (.ref b12), .val (.ref b14), .val (.int (1 : Int32))] [(.int (((if (2147483645 : Int32) < (x1 &&& (2147483647 : Int32)) then (2147483645 : Int32) else (x1 &&& (2147483647 : Int32))) + (1 : Int32)) + (1 : Int32)))])) _
    refine XS.iloadN X21.here hx rfl (hb hby at_147) rfl ?_
    show Steps p.tables e below (T21.setTop (mkF m 148 #[.val (.int x1), .val (.int x2), .val (.int (if (2147483645 : Int32) < (x1 &&& (2147483647 : Int32)) then (2147483645 : Int32) else (x1 &&& (2147483647 : Int32)))), .val (.int (if ¬ ((x2 &&& (1 : Int32)) = (0 : Int32)) then (1 : Int32) else (0 : Int32))), .val (.int (if ¬ ((x2 &&& (2 : Int32)) = (0 : Int32)) then (1 : Int32) else (0 : Int32))), .val (.int (if ¬ ((x2 &&& (4 : Int32)) = (0 : Int32)) then (1 : Int32) else (0 : Int32))), .val (.ref b8), .val (.ref b12), .val (.ref b14), .val (.int (1 : Int32))] [(.int (if (2147483645 : Int32) < (x1 &&& (2147483647 : Int32)) then (2147483645 : Int32) else (x1 &&& (2147483647 : Int32)))), (.int (((if (2147483645 : Int32) < (x1 &&& (2147483647 : Int32)) then (2147483645 : Int32) else (x1 &&& (2147483647 : Int32))) + (1 : Int32)) + (1 : Int32)))])) _
    refine XS.iconst X21.here hx rfl (hb hby at_148) ?_
    show Steps p.tables e below (T21.setTop (mkF m 149 #[.val (.int x1), .val (.int x2), .val (.int (if (2147483645 : Int32) < (x1 &&& (2147483647 : Int32)) then (2147483645 : Int32) else (x1 &&& (2147483647 : Int32)))), .val (.int (if ¬ ((x2 &&& (1 : Int32)) = (0 : Int32)) then (1 : Int32) else (0 : Int32))), .val (.int (if ¬ ((x2 &&& (2 : Int32)) = (0 : Int32)) then (1 : Int32) else (0 : Int32))), .val (.int (if ¬ ((x2 &&& (4 : Int32)) = (0 : Int32)) then (1 : Int32) else (0 : Int32))), .val (.ref b8), .val (.ref b12), .val (.ref b14), .val (.int (1 : Int32))] [(.int (2 : Int32)), (.int (if (2147483645 : Int32) < (x1 &&& (2147483647 : Int32)) then (2147483645 : Int32) else (x1 &&& (2147483647 : Int32)))), (.int (((if (2147483645 : Int32) < (x1 &&& (2147483647 : Int32)) then (2147483645 : Int32) else (x1 &&& (2147483647 : Int32))) + (1 : Int32)) + (1 : Int32)))])) _
    refine XS.iadd X21.here hx rfl (hb hby at_149) rfl ?_
    show Steps p.tables e below (T21.setTop (mkF m 150 #[.val (.int x1), .val (.int x2), .val (.int (if (2147483645 : Int32) < (x1 &&& (2147483647 : Int32)) then (2147483645 : Int32) else (x1 &&& (2147483647 : Int32)))), .val (.int (if ¬ ((x2 &&& (1 : Int32)) = (0 : Int32)) then (1 : Int32) else (0 : Int32))), .val (.int (if ¬ ((x2 &&& (2 : Int32)) = (0 : Int32)) then (1 : Int32) else (0 : Int32))), .val (.int (if ¬ ((x2 &&& (4 : Int32)) = (0 : Int32)) then (1 : Int32) else (0 : Int32))), .val (.ref b8), .val (.ref b12), .val (.ref b14), .val (.int (1 : Int32))] [(.int ((if (2147483645 : Int32) < (x1 &&& (2147483647 : Int32)) then (2147483645 : Int32) else (x1 &&& (2147483647 : Int32))) + (2 : Int32))), (.int (((if (2147483645 : Int32) < (x1 &&& (2147483647 : Int32)) then (2147483645 : Int32) else (x1 &&& (2147483647 : Int32))) + (1 : Int32)) + (1 : Int32)))])) _
    refine XS.icmpNo X21.here hx rfl (hb hby at_150) rfl (teq (by rw [Int32.add_assoc]; rfl : (((if (2147483645 : Int32) < (x1 &&& (2147483647 : Int32)) then (2147483645 : Int32) else (x1 &&& (2147483647 : Int32))) + (1 : Int32)) + (1 : Int32)) = ((if (2147483645 : Int32) < (x1 &&& (2147483647 : Int32)) then (2147483645 : Int32) else (x1 &&& (2147483647 : Int32))) + (2 : Int32)))).2 ?_
    show Steps p.tables e below (T21.setTop (mkF m 153 #[.val (.int x1), .val (.int x2), .val (.int (if (2147483645 : Int32) < (x1 &&& (2147483647 : Int32)) then (2147483645 : Int32) else (x1 &&& (2147483647 : Int32)))), .val (.int (if ¬ ((x2 &&& (1 : Int32)) = (0 : Int32)) then (1 : Int32) else (0 : Int32))), .val (.int (if ¬ ((x2 &&& (2 : Int32)) = (0 : Int32)) then (1 : Int32) else (0 : Int32))), .val (.int (if ¬ ((x2 &&& (4 : Int32)) = (0 : Int32)) then (1 : Int32) else (0 : Int32))), .val (.ref b8), .val (.ref b12), .val (.ref b14), .val (.int (1 : Int32))] [])) _
    refine XS.iconst X21.here hx rfl (hb hby at_153) ?_
    show Steps p.tables e below (T21.setTop (mkF m 154 #[.val (.int x1), .val (.int x2), .val (.int (if (2147483645 : Int32) < (x1 &&& (2147483647 : Int32)) then (2147483645 : Int32) else (x1 &&& (2147483647 : Int32)))), .val (.int (if ¬ ((x2 &&& (1 : Int32)) = (0 : Int32)) then (1 : Int32) else (0 : Int32))), .val (.int (if ¬ ((x2 &&& (2 : Int32)) = (0 : Int32)) then (1 : Int32) else (0 : Int32))), .val (.int (if ¬ ((x2 &&& (4 : Int32)) = (0 : Int32)) then (1 : Int32) else (0 : Int32))), .val (.ref b8), .val (.ref b12), .val (.ref b14), .val (.int (1 : Int32))] [(.int (1 : Int32))])) _
    refine XS.goto X21.here hx rfl (pc0 := 154) (pc' := 158) rfl (hb hby at_154) (by decide) (by decide) ?_
    show Steps p.tables e below (T21.setTop (mkF m 158 #[.val (.int x1), .val (.int x2), .val (.int (if (2147483645 : Int32) < (x1 &&& (2147483647 : Int32)) then (2147483645 : Int32) else (x1 &&& (2147483647 : Int32)))), .val (.int (if ¬ ((x2 &&& (1 : Int32)) = (0 : Int32)) then (1 : Int32) else (0 : Int32))), .val (.int (if ¬ ((x2 &&& (2 : Int32)) = (0 : Int32)) then (1 : Int32) else (0 : Int32))), .val (.int (if ¬ ((x2 &&& (4 : Int32)) = (0 : Int32)) then (1 : Int32) else (0 : Int32))), .val (.ref b8), .val (.ref b12), .val (.ref b14), .val (.int (1 : Int32))] [(.int (1 : Int32))])) _
    refine XS.istore X21.here hx rfl (hb hby at_158) rfl (l' := #[.val (.int x1), .val (.int x2), .val (.int (if (2147483645 : Int32) < (x1 &&& (2147483647 : Int32)) then (2147483645 : Int32) else (x1 &&& (2147483647 : Int32)))), .val (.int (if ¬ ((x2 &&& (1 : Int32)) = (0 : Int32)) then (1 : Int32) else (0 : Int32))), .val (.int (if ¬ ((x2 &&& (2 : Int32)) = (0 : Int32)) then (1 : Int32) else (0 : Int32))), .val (.int (if ¬ ((x2 &&& (4 : Int32)) = (0 : Int32)) then (1 : Int32) else (0 : Int32))), .val (.ref b8), .val (.ref b12), .val (.ref b14), .val (.int (1 : Int32))]) rfl ?_
    show Steps p.tables e below (T21.setTop (mkF m 160 #[.val (.int x1), .val (.int x2), .val (.int (if (2147483645 : Int32) < (x1 &&& (2147483647 : Int32)) then (2147483645 : Int32) else (x1 &&& (2147483647 : Int32)))), .val (.int (if ¬ ((x2 &&& (1 : Int32)) = (0 : Int32)) then (1 : Int32) else (0 : Int32))), .val (.int (if ¬ ((x2 &&& (2 : Int32)) = (0 : Int32)) then (1 : Int32) else (0 : Int32))), .val (.int (if ¬ ((x2 &&& (4 : Int32)) = (0 : Int32)) then (1 : Int32) else (0 : Int32))), .val (.ref b8), .val (.ref b12), .val (.ref b14), .val (.int (1 : Int32))] [])) _
    refine XS.iload X21.here hx rfl (hb hby at_160) rfl ?_
    show Steps p.tables e below (T21.setTop (mkF m 162 #[.val (.int x1), .val (.int x2), .val (.int (if (2147483645 : Int32) < (x1 &&& (2147483647 : Int32)) then (2147483645 : Int32) else (x1 &&& (2147483647 : Int32)))), .val (.int (if ¬ ((x2 &&& (1 : Int32)) = (0 : Int32)) then (1 : Int32) else (0 : Int32))), .val (.int (if ¬ ((x2 &&& (2 : Int32)) = (0 : Int32)) then (1 : Int32) else (0 : Int32))), .val (.int (if ¬ ((x2 &&& (4 : Int32)) = (0 : Int32)) then (1 : Int32) else (0 : Int32))), .val (.ref b8), .val (.ref b12), .val (.ref b14), .val (.int (1 : Int32))] [(.int (1 : Int32))])) _
    refine XS.ifNo X21.here hx rfl (hb hby at_162) rfl ((if0 _ _).trans (feq (by decide : ¬ ((1 : Int32) = (0 : Int32)))).1) ?_
    show Steps p.tables e below (T21.setTop (mkF m 165 #[.val (.int x1), .val (.int x2), .val (.int (if (2147483645 : Int32) < (x1 &&& (2147483647 : Int32)) then (2147483645 : Int32) else (x1 &&& (2147483647 : Int32)))), .val (.int (if ¬ ((x2 &&& (1 : Int32)) = (0 : Int32)) then (1 : Int32) else (0 : Int32))), .val (.int (if ¬ ((x2 &&& (2 : Int32)) = (0 : Int32)) then (1 : Int32) else (0 : Int32))), .val (.int (if ¬ ((x2 &&& (4 : Int32)) = (0 : Int32)) then (1 : Int32) else (0 : Int32))), .val (.ref b8), .val (.ref b12), .val (.ref b14), .val (.int (1 : Int32))] [])) _
    refine XS.aload X21.here hx rfl (hb hby at_165) rfl rfl ?_
    show Steps p.tables e below (T21.setTop (mkF m 167 #[.val (.int x1), .val (.int x2), .val (.int (if (2147483645 : Int32) < (x1 &&& (2147483647 : Int32)) then (2147483645 : Int32) else (x1 &&& (2147483647 : Int32)))), .val (.int (if ¬ ((x2 &&& (1 : Int32)) = (0 : Int32)) then (1 : Int32) else (0 : Int32))), .val (.int (if ¬ ((x2 &&& (2 : Int32)) = (0 : Int32)) then (1 : Int32) else (0 : Int32))), .val (.int (if ¬ ((x2 &&& (4 : Int32)) = (0 : Int32)) then (1 : Int32) else (0 : Int32))), .val (.ref b8), .val (.ref b12), .val (.ref b14), .val (.int (1 : Int32))] [(.ref b14)])) _
    refine st22.trans ?_
    show Steps p.tables e below (T22.setTop (mkF m 170 #[.val (.int x1), .val (.int x2), .val (.int (if (2147483645 : Int32) < (x1 &&& (2147483647 : Int32)) then (2147483645 : Int32) else (x1 &&& (2147483647 : Int32)))), .val (.int (if ¬ ((x2 &&& (1 : Int32)) = (0 : Int32)) then (1 : Int32) else (0 : Int32))), .val (.int (if ¬ ((x2 &&& (2 : Int32)) = (0 : Int32)) then (1 : Int32) else (0 : Int32))), .val (.int (if ¬ ((x2 &&& (4 : Int32)) = (0 : Int32)) then (1 : Int32) else (0 : Int32))), .val (.ref b8), .val (.ref b12), .val (.ref b14), .val (.int (1 : Int32))] [(.int (if (if (if ¬ ((x2 &&& (1 : Int32)) = (0 : Int32)) then (1 : Int32) else (0 : Int32)) = (0 : Int32) then (if ¬ ((if ¬ ((x2 &&& (2 : Int32)) = (0 : Int32)) then (1 : Int32) else (0 : Int32)) = (0 : Int32)) then (1 : Int32) else (0 : Int32)) else (1 : Int32)) = (0 : Int32) then (if ¬ ((if ¬ ((x2 &&& (4 : Int32)) = (0 : Int32)) then (1 : Int32) else (0 : Int32)) = (0 : Int32)) then (1 : Int32) else (0 : Int32)) else (1 : Int32)))])) _
    refine XS.iloadN X22.here hx rfl (hb hby at_170) rfl ?_
    show Steps p.tables e below (T22.setTop (mkF m 171 #[.val (.int x1), .val (.int x2), .val (.int (if (2147483645 : Int32) < (x1 &&& (2147483647 : Int32)) then (2147483645 : Int32) else (x1 &&& (2147483647 : Int32)))), .val (.int (if ¬ ((x2 &&& (1 : Int32)) = (0 : Int32)) then (1 : Int32) else (0 : Int32))), .val (.int (if ¬ ((x2 &&& (2 : Int32)) = (0 : Int32)) then (1 : Int32) else (0 : Int32))), .val (.int (if ¬ ((x2 &&& (4 : Int32)) = (0 : Int32)) then (1 : Int32) else (0 : Int32))), .val (.ref b8), .val (.ref b12), .val (.ref b14), .val (.int (1 : Int32))] [(.int (if ¬ ((x2 &&& (1 : Int32)) = (0 : Int32)) then (1 : Int32) else (0 : Int32))), (.int (if (if (if ¬ ((x2 &&& (1 : Int32)) = (0 : Int32)) then (1 : Int32) else (0 : Int32)) = (0 : Int32) then (if ¬ ((if ¬ ((x2 &&& (2 : Int32)) = (0 : Int32)) then (1 : Int32) else (0 : Int32)) = (0 : Int32)) then (1 : Int32) else (0 : Int32)) else (1 : Int32)) = (0 : Int32) then (if ¬ ((if ¬ ((x2 &&& (4 : Int32)) = (0 : Int32)) then (1 : Int32) else (0 : Int32)) = (0 : Int32)) then (1 : Int32) else (0 : Int32)) else (1 : Int32)))])) _
    by_cases hc23 : ¬ ((x2 &&& (1 : Int32)) = (0 : Int32))
    · skip
      refine XS.ifYes X22.here hx rfl (pc0 := 171) (pc' := 184) rfl (hb hby at_171) rfl ((if0 _ _).trans (feq (fun q => absurd ((if_pos hc23).symm.trans q) (by decide))).2) (by decide) (by decide) ?_
      show Steps p.tables e below (T22.setTop (mkF m 184 #[.val (.int x1), .val (.int x2), .val (.int (if (2147483645 : Int32) < (x1 &&& (2147483647 : Int32)) then (2147483645 : Int32) else (x1 &&& (2147483647 : Int32)))), .val (.int (if ¬ ((x2 &&& (1 : Int32)) = (0 : Int32)) then (1 : Int32) else (0 : Int32))), .val (.int (if ¬ ((x2 &&& (2 : Int32)) = (0 : Int32)) then (1 : Int32) else (0 : Int32))), .val (.int (if ¬ ((x2 &&& (4 : Int32)) = (0 : Int32)) then (1 : Int32) else (0 : Int32))), .val (.ref b8), .val (.ref b12), .val (.ref b14), .val (.int (1 : Int32))] [(.int (if (if (if ¬ ((x2 &&& (1 : Int32)) = (0 : Int32)) then (1 : Int32) else (0 : Int32)) = (0 : Int32) then (if ¬ ((if ¬ ((x2 &&& (2 : Int32)) = (0 : Int32)) then (1 : Int32) else (0 : Int32)) = (0 : Int32)) then (1 : Int32) else (0 : Int32)) else (1 : Int32)) = (0 : Int32) then (if ¬ ((if ¬ ((x2 &&& (4 : Int32)) = (0 : Int32)) then (1 : Int32) else (0 : Int32)) = (0 : Int32)) then (1 : Int32) else (0 : Int32)) else (1 : Int32)))])) _
      refine XS.iconst X22.here hx rfl (hb hby at_184) ?_
      show Steps p.tables e below (T22.setTop (mkF m 185 #[.val (.int x1), .val (.int x2), .val (.int (if (2147483645 : Int32) < (x1 &&& (2147483647 : Int32)) then (2147483645 : Int32) else (x1 &&& (2147483647 : Int32)))), .val (.int (if ¬ ((x2 &&& (1 : Int32)) = (0 : Int32)) then (1 : Int32) else (0 : Int32))), .val (.int (if ¬ ((x2 &&& (2 : Int32)) = (0 : Int32)) then (1 : Int32) else (0 : Int32))), .val (.int (if ¬ ((x2 &&& (4 : Int32)) = (0 : Int32)) then (1 : Int32) else (0 : Int32))), .val (.ref b8), .val (.ref b12), .val (.ref b14), .val (.int (1 : Int32))] [(.int (1 : Int32)), (.int (if (if (if ¬ ((x2 &&& (1 : Int32)) = (0 : Int32)) then (1 : Int32) else (0 : Int32)) = (0 : Int32) then (if ¬ ((if ¬ ((x2 &&& (2 : Int32)) = (0 : Int32)) then (1 : Int32) else (0 : Int32)) = (0 : Int32)) then (1 : Int32) else (0 : Int32)) else (1 : Int32)) = (0 : Int32) then (if ¬ ((if ¬ ((x2 &&& (4 : Int32)) = (0 : Int32)) then (1 : Int32) else (0 : Int32)) = (0 : Int32)) then (1 : Int32) else (0 : Int32)) else (1 : Int32)))])) _
      refine XS.goto X22.here hx rfl (pc0 := 185) (pc' := 189) rfl (hb hby at_185) (by decide) (by decide) ?_
      exact castTop (congrArg (fun z_ => (mkF m 189 #[.val (.int x1), .val (.int x2), .val (.int (if (2147483645 : Int32) < (x1 &&& (2147483647 : Int32)) then (2147483645 : Int32) else (x1 &&& (2147483647 : Int32)))), .val (.int (if ¬ ((x2 &&& (1 : Int32)) = (0 : Int32)) then (1 : Int32) else (0 : Int32))), .val (.int (if ¬ ((x2 &&& (2 : Int32)) = (0 : Int32)) then (1 : Int32) else (0 : Int32))), .val (.int (if ¬ ((x2 &&& (4 : Int32)) = (0 : Int32)) then (1 : Int32) else (0 : Int32))), .val (.ref b8), .val (.ref b12), .val (.ref b14), .val (.int (1 : Int32))] [(.int z_), (.int (if (if (if ¬ ((x2 &&& (1 : Int32)) = (0 : Int32)) then (1 : Int32) else (0 : Int32)) = (0 : Int32) then (if ¬ ((if ¬ ((x2 &&& (2 : Int32)) = (0 : Int32)) then (1 : Int32) else (0 : Int32)) = (0 : Int32)) then (1 : Int32) else (0 : Int32)) else (1 : Int32)) = (0 : Int32) then (if ¬ ((if ¬ ((x2 &&& (4 : Int32)) = (0 : Int32)) then (1 : Int32) else (0 : Int32)) = (0 : Int32)) then (1 : Int32) else (0 : Int32)) else (1 : Int32)))])) (show (1 : Int32) = (if ¬ ((x2 &&& (1 : Int32)) = (0 : Int32)) then (1 : Int32) else (if ¬ ((x2 &&& (2 : Int32)) = (0 : Int32)) then (1 : Int32) else (if ¬ ((x2 &&& (4 : Int32)) = (0 : Int32)) then (1 : Int32) else (0 : Int32)))) from by rw [if_pos hc23])) k
    · skip
      refine XS.ifNo X22.here hx rfl (hb hby at_171) rfl ((if0 _ _).trans (teq (if_neg hc23)).2) ?_
      show Steps p.tables e below (T22.setTop (mkF m 174 #[.val (.int x1), .val (.int x2), .val (.int (if (2147483645 : Int32) < (x1 &&& (2147483647 : Int32)) then (2147483645 : Int32) else (x1 &&& (2147483647 : Int32)))), .val (.int (if ¬ ((x2 &&& (1 : Int32)) = (0 : Int32)) then (1 : Int32) else (0 : Int32))), .val (.int (if ¬ ((x2 &&& (2 : Int32)) = (0 : Int32)) then (1 : Int32) else (0 : Int32))), .val (.int (if ¬ ((x2 &&& (4 : Int32)) = (0 : Int32)) then (1 : Int32) else (0 : Int32))), .val (.ref b8), .val (.ref b12), .val (.ref b14), .val (.int (1 : Int32))] [(.int (if (if (if ¬ ((x2 &&& (1 : Int32)) = (0 : Int32)) then (1 : Int32) else (0 : Int32)) = (0 : Int32) then (if ¬ ((if ¬ ((x2 &&& (2 : Int32)) = (0 : Int32)) then (1 : Int32) else (0 : Int32)) = (0 : Int32)) then (1 : Int32) else (0 : Int32)) else (1 : Int32)) = (0 : Int32) then (if ¬ ((if ¬ ((x2 &&& (4 : Int32)) = (0 : Int32)) then (1 : Int32) else (0 : Int32)) = (0 : Int32)) then (1 : Int32) else (0 : Int32)) else (1 : Int32)))])) _
      refine XS.iload X22.here hx rfl (hb hby at_174) rfl ?_
      show Steps p.tables e below (T22.setTop (mkF m 176 #[.val (.int x1), .val (.int x2), .val (.int (if (2147483645 : Int32) < (x1 &&& (2147483647 : Int32)) then (2147483645 : Int32) else (x1 &&& (2147483647 : Int32)))), .val (.int (if ¬ ((x2 &&& (1 : Int32)) = (0 : Int32)) then (1 : Int32) else (0 : Int32))), .val (.int (if ¬ ((x2 &&& (2 : Int32)) = (0 : Int32)) then (1 : Int32) else (0 : Int32))), .val (.int (if ¬ ((x2 &&& (4 : Int32)) = (0 : Int32)) then (1 : Int32) else (0 : Int32))), .val (.ref b8), .val (.ref b12), .val (.ref b14), .val (.int (1 : Int32))] [(.int (if ¬ ((x2 &&& (2 : Int32)) = (0 : Int32)) then (1 : Int32) else (0 : Int32))), (.int (if (if (if ¬ ((x2 &&& (1 : Int32)) = (0 : Int32)) then (1 : Int32) else (0 : Int32)) = (0 : Int32) then (if ¬ ((if ¬ ((x2 &&& (2 : Int32)) = (0 : Int32)) then (1 : Int32) else (0 : Int32)) = (0 : Int32)) then (1 : Int32) else (0 : Int32)) else (1 : Int32)) = (0 : Int32) then (if ¬ ((if ¬ ((x2 &&& (4 : Int32)) = (0 : Int32)) then (1 : Int32) else (0 : Int32)) = (0 : Int32)) then (1 : Int32) else (0 : Int32)) else (1 : Int32)))])) _
      by_cases hc24 : ¬ ((x2 &&& (2 : Int32)) = (0 : Int32))
      · skip
        refine XS.ifYes X22.here hx rfl (pc0 := 176) (pc' := 184) rfl (hb hby at_176) rfl ((if0 _ _).trans (feq (fun q => absurd ((if_pos hc24).symm.trans q) (by decide))).2) (by decide) (by decide) ?_
        show Steps p.tables e below (T22.setTop (mkF m 184 #[.val (.int x1), .val (.int x2), .val (.int (if (2147483645 : Int32) < (x1 &&& (2147483647 : Int32)) then (2147483645 : Int32) else (x1 &&& (2147483647 : Int32)))), .val (.int (if ¬ ((x2 &&& (1 : Int32)) = (0 : Int32)) then (1 : Int32) else (0 : Int32))), .val (.int (if ¬ ((x2 &&& (2 : Int32)) = (0 : Int32)) then (1 : Int32) else (0 : Int32))), .val (.int (if ¬ ((x2 &&& (4 : Int32)) = (0 : Int32)) then (1 : Int32) else (0 : Int32))), .val (.ref b8), .val (.ref b12), .val (.ref b14), .val (.int (1 : Int32))] [(.int (if (if (if ¬ ((x2 &&& (1 : Int32)) = (0 : Int32)) then (1 : Int32) else (0 : Int32)) = (0 : Int32) then (if ¬ ((if ¬ ((x2 &&& (2 : Int32)) = (0 : Int32)) then (1 : Int32) else (0 : Int32)) = (0 : Int32)) then (1 : Int32) else (0 : Int32)) else (1 : Int32)) = (0 : Int32) then (if ¬ ((if ¬ ((x2 &&& (4 : Int32)) = (0 : Int32)) then (1 : Int32) else (0 : Int32)) = (0 : Int32)) then (1 : Int32) else (0 : Int32)) else (1 : Int32)))])) _
        refine XS.iconst X22.here hx rfl (hb hby at_184) ?_
        show Steps p.tables e below (T22.setTop (mkF m 185 #[.val (.int x1), .val (.int x2), .val (.int (if (2147483645 : Int32) < (x1 &&& (2147483647 : Int32)) then (2147483645 : Int32) else (x1 &&& (2147483647 : Int32)))), .val (.int (if ¬ ((x2 &&& (1 : Int32)) = (0 : Int32)) then (1 : Int32) else (0 : Int32))), .val (.int (if ¬ ((x2 &&& (2 : Int32)) = (0 : Int32)) then (1 : Int32) else (0 : Int32))), .val (.int (if ¬ ((x2 &&& (4 : Int32)) = (0 : Int32)) then (1 : Int32) else (0 : Int32))), .val (.ref b8), .val (.ref b12), .val (.ref b14), .val (.int (1 : Int32))] [(.int (1 : Int32)), (.int (if (if (if ¬ ((x2 &&& (1 : Int32)) = (0 : Int32)) then (1 : Int32) else (0 : Int32)) = (0 : Int32) then (if ¬ ((if ¬ ((x2 &&& (2 : Int32)) = (0 : Int32)) then (1 : Int32) else (0 : Int32)) = (0 : Int32)) then (1 : Int32) else (0 : Int32)) else (1 : Int32)) = (0 : Int32) then (if ¬ ((if ¬ ((x2 &&& (4 : Int32)) = (0 : Int32)) then (1 : Int32) else (0 : Int32)) = (0 : Int32)) then (1 : Int32) else (0 : Int32)) else (1 : Int32)))])) _
        refine XS.goto X22.here hx rfl (pc0 := 185) (pc' := 189) rfl (hb hby at_185) (by decide) (by decide) ?_
        exact castTop (congrArg (fun z_ => (mkF m 189 #[.val (.int x1), .val (.int x2), .val (.int (if (2147483645 : Int32) < (x1 &&& (2147483647 : Int32)) then (2147483645 : Int32) else (x1 &&& (2147483647 : Int32)))), .val (.int (if ¬ ((x2 &&& (1 : Int32)) = (0 : Int32)) then (1 : Int32) else (0 : Int32))), .val (.int (if ¬ ((x2 &&& (2 : Int32)) = (0 : Int32)) then (1 : Int32) else (0 : Int32))), .val (.int (if ¬ ((x2 &&& (4 : Int32)) = (0 : Int32)) then (1 : Int32) else (0 : Int32))), .val (.ref b8), .val (.ref b12), .val (.ref b14), .val (.int (1 : Int32))] [(.int z_), (.int (if (if (if ¬ ((x2 &&& (1 : Int32)) = (0 : Int32)) then (1 : Int32) else (0 : Int32)) = (0 : Int32) then (if ¬ ((if ¬ ((x2 &&& (2 : Int32)) = (0 : Int32)) then (1 : Int32) else (0 : Int32)) = (0 : Int32)) then (1 : Int32) else (0 : Int32)) else (1 : Int32)) = (0 : Int32) then (if ¬ ((if ¬ ((x2 &&& (4 : Int32)) = (0 : Int32)) then (1 : Int32) else (0 : Int32)) = (0 : Int32)) then (1 : Int32) else (0 : Int32)) else (1 : Int32)))])) (show (1 : Int32) = (if ¬ ((x2 &&& (1 : Int32)) = (0 : Int32)) then (1 : Int32) else (if ¬ ((x2 &&& (2 : Int32)) = (0 : Int32)) then (1 : Int32) else (if ¬ ((x2 &&& (4 : Int32)) = (0 : Int32)) then (1 : Int32) else (0 : Int32)))) from by rw [if_neg hc23, if_pos hc24])) k
      · skip
        refine XS.ifNo X22.here hx rfl (hb hby at_176) rfl ((if0 _ _).trans (teq (if_neg hc24)).2) ?_
        show Steps p.tables e below (T22.setTop (mkF m 179 #[.val (.int x1), .val (.int x2), .val (.int (if (2147483645 : Int32) < (x1 &&& (2147483647 : Int32)) then (2147483645 : Int32) else (x1 &&& (2147483647 : Int32)))), .val (.int (if ¬ ((x2 &&& (1 : Int32)) = (0 : Int32)) then (1 : Int32) else (0 : Int32))), .val (.int (if ¬ ((x2 &&& (2 : Int32)) = (0 : Int32)) then (1 : Int32) else (0 : Int32))), .val (.int (if ¬ ((x2 &&& (4 : Int32)) = (0 : Int32)) then (1 : Int32) else (0 : Int32))), .val (.ref b8), .val (.ref b12), .val (.ref b14), .val (.int (1 : Int32))] [(.int (if (if (if ¬ ((x2 &&& (1 : Int32)) = (0 : Int32)) then (1 : Int32) else (0 : Int32)) = (0 : Int32) then (if ¬ ((if ¬ ((x2 &&& (2 : Int32)) = (0 : Int32)) then (1 : Int32) else (0 : Int32)) = (0 : Int32)) then (1 : Int32) else (0 : Int32)) else (1 : Int32)) = (0 : Int32) then (if ¬ ((if ¬ ((x2 &&& (4 : Int32)) = (0 : Int32)) then (1 : Int32) else (0 : Int32)) = (0 : Int32)) then (1 : Int32) else (0 : Int32)) else (1 : Int32)))])) _
        refine XS.iload X22.here hx rfl (hb hby at_179) rfl ?_
        show Steps p.tables e below (T22.setTop (mkF m 181 #[.val (.int x1), .val (.int x2), .val (.int (if (2147483645 : Int32) < (x1 &&& (2147483647 : Int32)) then (2147483645 : Int32) else (x1 &&& (2147483647 : Int32)))), .val (.int (if ¬ ((x2 &&& (1 : Int32)) = (0 : Int32)) then (1 : Int32) else (0 : Int32))), .val (.int (if ¬ ((x2 &&& (2 : Int32)) = (0 : Int32)) then (1 : Int32) else (0 : Int32))), .val (.int (if ¬ ((x2 &&& (4 : Int32)) = (0 : Int32)) then (1 : Int32) else (0 : Int32))), .val (.ref b8), .val (.ref b12), .val (.ref b14), .val (.int (1 : Int32))] [(.int (if ¬ ((x2 &&& (4 : Int32)) = (0 : Int32)) then (1 : Int32) else (0 : Int32))), (.int (if (if (if ¬ ((x2 &&& (1 : Int32)) = (0 : Int32)) then (1 : Int32) else (0 : Int32)) = (0 : Int32) then (if ¬ ((if ¬ ((x2 &&& (2 : Int32)) = (0 : Int32)) then (1 : Int32) else (0 : Int32)) = (0 : Int32)) then (1 : Int32) else (0 : Int32)) else (1 : Int32)) = (0 : Int32) then (if ¬ ((if ¬ ((x2 &&& (4 : Int32)) = (0 : Int32)) then (1 : Int32) else (0 : Int32)) = (0 : Int32)) then (1 : Int32) else (0 : Int32)) else (1 : Int32)))])) _
        by_cases hc25 : ¬ ((x2 &&& (4 : Int32)) = (0 : Int32))
        · skip
          refine XS.ifNo X22.here hx rfl (hb hby at_181) rfl ((if0 _ _).trans (feq (fun q => absurd ((if_pos hc25).symm.trans q) (by decide))).1) ?_
          show Steps p.tables e below (T22.setTop (mkF m 184 #[.val (.int x1), .val (.int x2), .val (.int (if (2147483645 : Int32) < (x1 &&& (2147483647 : Int32)) then (2147483645 : Int32) else (x1 &&& (2147483647 : Int32)))), .val (.int (if ¬ ((x2 &&& (1 : Int32)) = (0 : Int32)) then (1 : Int32) else (0 : Int32))), .val (.int (if ¬ ((x2 &&& (2 : Int32)) = (0 : Int32)) then (1 : Int32) else (0 : Int32))), .val (.int (if ¬ ((x2 &&& (4 : Int32)) = (0 : Int32)) then (1 : Int32) else (0 : Int32))), .val (.ref b8), .val (.ref b12), .val (.ref b14), .val (.int (1 : Int32))] [(.int (if (if (if ¬ ((x2 &&& (1 : Int32)) = (0 : Int32)) then (1 : Int32) else (0 : Int32)) = (0 : Int32) then (if ¬ ((if ¬ ((x2 &&& (2 : Int32)) = (0 : Int32)) then (1 : Int32) else (0 : Int32)) = (0 : Int32)) then (1 : Int32) else (0 : Int32)) else (1 : Int32)) = (0 : Int32) then (if ¬ ((if ¬ ((x2 &&& (4 : Int32)) = (0 : Int32)) then (1 : Int32) else (0 : Int32)) = (0 : Int32)) then (1 : Int32) else (0 : Int32)) else (1 : Int32)))])) _
          refine XS.iconst X22.here hx rfl (hb hby at_184) ?_
          show Steps p.tables e below (T22.setTop (mkF m 185 #[.val (.int x1), .val (.int x2), .val (.int (if (2147483645 : Int32) < (x1 &&& (2147483647 : Int32)) then (2147483645 : Int32) else (x1 &&& (2147483647 : Int32)))), .val (.int (if ¬ ((x2 &&& (1 : Int32)) = (0 : Int32)) then (1 : Int32) else (0 : Int32))), .val (.int (if ¬ ((x2 &&& (2 : Int32)) = (0 : Int32)) then (1 : Int32) else (0 : Int32))), .val (.int (if ¬ ((x2 &&& (4 : Int32)) = (0 : Int32)) then (1 : Int32) else (0 : Int32))), .val (.ref b8), .val (.ref b12), .val (.ref b14), .val (.int (1 : Int32))] [(.int (1 : Int32)), (.int (if (if (if ¬ ((x2 &&& (1 : Int32)) = (0 : Int32)) then (1 : Int32) else (0 : Int32)) = (0 : Int32) then (if ¬ ((if ¬ ((x2 &&& (2 : Int32)) = (0 : Int32)) then (1 : Int32) else (0 : Int32)) = (0 : Int32)) then (1 : Int32) else (0 : Int32)) else (1 : Int32)) = (0 : Int32) then (if ¬ ((if ¬ ((x2 &&& (4 : Int32)) = (0 : Int32)) then (1 : Int32) else (0 : Int32)) = (0 : Int32)) then (1 : Int32) else (0 : Int32)) else (1 : Int32)))])) _
          refine XS.goto X22.here hx rfl (pc0 := 185) (pc' := 189) rfl (hb hby at_185) (by decide) (by decide) ?_
          exact castTop (congrArg (fun z_ => (mkF m 189 #[.val (.int x1), .val (.int x2), .val (.int (if (2147483645 : Int32) < (x1 &&& (2147483647 : Int32)) then (2147483645 : Int32) else (x1 &&& (2147483647 : Int32)))), .val (.int (if ¬ ((x2 &&& (1 : Int32)) = (0 : Int32)) then (1 : Int32) else (0 : Int32))), .val (.int (if ¬ ((x2 &&& (2 : Int32)) = (0 : Int32)) then (1 : Int32) else (0 : Int32))), .val (.int (if ¬ ((x2 &&& (4 : Int32)) = (0 : Int32)) then (1 : Int32) else (0 : Int32))), .val (.ref b8), .val (.ref b12), .val (.ref b14), .val (.int (1 : Int32))] [(.int z_), (.int (if (if (if ¬ ((x2 &&& (1 : Int32)) = (0 : Int32)) then (1 : Int32) else (0 : Int32)) = (0 : Int32) then (if ¬ ((if ¬ ((x2 &&& (2 : Int32)) = (0 : Int32)) then (1 : Int32) else (0 : Int32)) = (0 : Int32)) then (1 : Int32) else (0 : Int32)) else (1 : Int32)) = (0 : Int32) then (if ¬ ((if ¬ ((x2 &&& (4 : Int32)) = (0 : Int32)) then (1 : Int32) else (0 : Int32)) = (0 : Int32)) then (1 : Int32) else (0 : Int32)) else (1 : Int32)))])) (show (1 : Int32) = (if ¬ ((x2 &&& (1 : Int32)) = (0 : Int32)) then (1 : Int32) else (if ¬ ((x2 &&& (2 : Int32)) = (0 : Int32)) then (1 : Int32) else (if ¬ ((x2 &&& (4 : Int32)) = (0 : Int32)) then (1 : Int32) else (0 : Int32)))) from by rw [if_neg hc23, if_neg hc24, if_pos hc25])) k
        · skip
          refine XS.ifYes X22.here hx rfl (pc0 := 181) (pc' := 188) rfl (hb hby at_181) rfl ((if0 _ _).trans (teq (if_neg hc25)).1) (by decide) (by decide) ?_
          show Steps p.tables e below (T22.setTop (mkF m 188 #[.val (.int x1), .val (.int x2), .val (.int (if (2147483645 : Int32) < (x1 &&& (2147483647 : Int32)) then (2147483645 : Int32) else (x1 &&& (2147483647 : Int32)))), .val (.int (if ¬ ((x2 &&& (1 : Int32)) = (0 : Int32)) then (1 : Int32) else (0 : Int32))), .val (.int (if ¬ ((x2 &&& (2 : Int32)) = (0 : Int32)) then (1 : Int32) else (0 : Int32))), .val (.int (if ¬ ((x2 &&& (4 : Int32)) = (0 : Int32)) then (1 : Int32) else (0 : Int32))), .val (.ref b8), .val (.ref b12), .val (.ref b14), .val (.int (1 : Int32))] [(.int (if (if (if ¬ ((x2 &&& (1 : Int32)) = (0 : Int32)) then (1 : Int32) else (0 : Int32)) = (0 : Int32) then (if ¬ ((if ¬ ((x2 &&& (2 : Int32)) = (0 : Int32)) then (1 : Int32) else (0 : Int32)) = (0 : Int32)) then (1 : Int32) else (0 : Int32)) else (1 : Int32)) = (0 : Int32) then (if ¬ ((if ¬ ((x2 &&& (4 : Int32)) = (0 : Int32)) then (1 : Int32) else (0 : Int32)) = (0 : Int32)) then (1 : Int32) else (0 : Int32)) else (1 : Int32)))])) _
          refine XS.iconst X22.here hx rfl (hb hby at_188) ?_
          exact castTop (congrArg (fun z_ => (mkF m 189 #[.val (.int x1), .val (.int x2), .val (.int (if (2147483645 : Int32) < (x1 &&& (2147483647 : Int32)) then (2147483645 : Int32) else (x1 &&& (2147483647 : Int32)))), .val (.int (if ¬ ((x2 &&& (1 : Int32)) = (0 : Int32)) then (1 : Int32) else (0 : Int32))), .val (.int (if ¬ ((x2 &&& (2 : Int32)) = (0 : Int32)) then (1 : Int32) else (0 : Int32))), .val (.int (if ¬ ((x2 &&& (4 : Int32)) = (0 : Int32)) then (1 : Int32) else (0 : Int32))), .val (.ref b8), .val (.ref b12), .val (.ref b14), .val (.int (1 : Int32))] [(.int z_), (.int (if (if (if ¬ ((x2 &&& (1 : Int32)) = (0 : Int32)) then (1 : Int32) else (0 : Int32)) = (0 : Int32) then (if ¬ ((if ¬ ((x2 &&& (2 : Int32)) = (0 : Int32)) then (1 : Int32) else (0 : Int32)) = (0 : Int32)) then (1 : Int32) else (0 : Int32)) else (1 : Int32)) = (0 : Int32) then (if ¬ ((if ¬ ((x2 &&& (4 : Int32)) = (0 : Int32)) then (1 : Int32) else (0 : Int32)) = (0 : Int32)) then (1 : Int32) else (0 : Int32)) else (1 : Int32)))])) (show (0 : Int32) = (if ¬ ((x2 &&& (1 : Int32)) = (0 : Int32)) then (1 : Int32) else (if ¬ ((x2 &&& (2 : Int32)) = (0 : Int32)) then (1 : Int32) else (if ¬ ((x2 &&& (4 : Int32)) = (0 : Int32)) then (1 : Int32) else (0 : Int32)))) from by rw [if_neg hc23, if_neg hc24, if_neg hc25])) k)
  obtain ⟨cq27, kq27, q27a, q27b, q27c⟩ := isOf hZ e22 Ee10
  obtain ⟨_, _, ⟨T27, L27, k27, n27⟩, -, X27, ⟨Lc27, hQ27, l27, y27, z27⟩, st27⟩ := X22.virtualBack hx (y := (⟨"com/example/millrace/millrace/engine/Arrivals", "count", "()I"⟩ : MethodName)) (z := (⟨"com/example/millrace/millrace/engine/Arrivals", "count", "()I"⟩ : MethodName)) hown (mvT hZ (hw _ (List.mem_of_getElem? (i := 26) rfl))) (mvT hZ (hw _ (List.mem_of_getElem? (i := 27) rfl))) (notFace_of_selects (args := #[]) (mvT hZ (hw _ (List.mem_of_getElem? (i := 29) rfl)))) (mvT hZ (hw _ (List.mem_of_getElem? (i := 29) rfl))) (mvT hZ (hw _ (List.mem_of_getElem? (i := 28) rfl))) (by decide) (backOf (W := 0) (own_count l Z a0 hw [] b8 (if (2147483645 : Int32) < (x1 &&& (2147483647 : Int32)) then (2147483645 : Int32) else (x1 &&& (2147483647 : Int32))) T14.heap n0 Z15 Fc10) hZ (hw _ (List.mem_of_getElem? (i := 30) rfl)) (hw _ (List.mem_of_getElem? (i := 8) rfl)) (by decide) (by decide)) q27a q27c (g := (mkF m 206 #[.val (.int x1), .val (.int x2), .val (.int (if (2147483645 : Int32) < (x1 &&& (2147483647 : Int32)) then (2147483645 : Int32) else (x1 &&& (2147483647 : Int32)))), .val (.int (if ¬ ((x2 &&& (1 : Int32)) = (0 : Int32)) then (1 : Int32) else (0 : Int32))), .val (.int (if ¬ ((x2 &&& (2 : Int32)) = (0 : Int32)) then (1 : Int32) else (0 : Int32))), .val (.int (if ¬ ((x2 &&& (4 : Int32)) = (0 : Int32)) then (1 : Int32) else (0 : Int32))), .val (.ref b8), .val (.ref b12), .val (.ref b14), .val (.int (1 : Int32))] [(.ref b8)])) rfl (by rw [hml]; rfl) (Steps.refl _) (argsL := []) (rest := []) (lenOf own_pd3 rfl) rfl (by show 2 * 0 + _ ≤ _; exact Nat.le_of_eq rfl) (hb hby at_206) (fun _ _ => ⟨rfl, e22, (by decide : 3 + 0 ≤ _), (by decide : 6 + 0 ≤ _)⟩)
  dsimp only [Pt.U, Pt.locs, Pt.cells, Pt.slots] at X27 l27 y27 z27 st27 hQ27
  subst l27 y27 z27
  obtain ⟨rfl, N27q, e27⟩ := hQ27
  have N27 := Fr.app N22 N27q
  obtain ⟨cq28, kq28, q28a, q28b, q28c⟩ := isOf hZ e27 Ee10
  obtain ⟨_, _, ⟨T28, L28, k28, n28⟩, -, X28, ⟨Lc28, hQ28, l28, y28, z28⟩, st28⟩ := X27.virtualBack hx (y := (⟨"com/example/millrace/millrace/engine/Arrivals", "live", "()Z"⟩ : MethodName)) (z := (⟨"com/example/millrace/millrace/engine/Arrivals", "live", "()Z"⟩ : MethodName)) hown (mvT hZ (hw _ (List.mem_of_getElem? (i := 31) rfl))) (mvT hZ (hw _ (List.mem_of_getElem? (i := 32) rfl))) (notFace_of_selects (args := #[]) (mvT hZ (hw _ (List.mem_of_getElem? (i := 34) rfl)))) (mvT hZ (hw _ (List.mem_of_getElem? (i := 34) rfl))) (mvT hZ (hw _ (List.mem_of_getElem? (i := 33) rfl))) (by decide) (backOf (W := 0) (own_live l Z a0 hw [] b8 (if ¬ ((x2 &&& (1 : Int32)) = (0 : Int32)) then (1 : Int32) else (0 : Int32)) T14.heap n0 Z15 Fl10 own_01) hZ (hw _ (List.mem_of_getElem? (i := 35) rfl)) (hw _ (List.mem_of_getElem? (i := 8) rfl)) (by decide) (by decide)) q28a q28c (g := (mkF m 227 #[.val (.int x1), .val (.int x2), .val (.int (if (2147483645 : Int32) < (x1 &&& (2147483647 : Int32)) then (2147483645 : Int32) else (x1 &&& (2147483647 : Int32)))), .val (.int (if ¬ ((x2 &&& (1 : Int32)) = (0 : Int32)) then (1 : Int32) else (0 : Int32))), .val (.int (if ¬ ((x2 &&& (2 : Int32)) = (0 : Int32)) then (1 : Int32) else (0 : Int32))), .val (.int (if ¬ ((x2 &&& (4 : Int32)) = (0 : Int32)) then (1 : Int32) else (0 : Int32))), .val (.ref b8), .val (.ref b12), .val (.ref b14), .val (.int (1 : Int32))] [(.ref b8)])) rfl (by rw [hml]; rfl) (Steps.refl _) (argsL := []) (rest := []) (lenOf own_pd4 rfl) rfl (by show 2 * 0 + _ ≤ _; exact Nat.le_of_eq rfl) (hb hby at_227) (fun _ _ => ⟨rfl, e27, (by decide : 3 + 0 ≤ _), (by decide : 6 + 0 ≤ _)⟩)
  dsimp only [Pt.U, Pt.locs, Pt.cells, Pt.slots] at X28 l28 y28 z28 st28 hQ28
  subst l28 y28 z28
  obtain ⟨rfl, N28q, e28⟩ := hQ28
  have N28 := Fr.app N27 N28q
  obtain ⟨fs, hr, hrun, hended, hW, hsame⟩ := X28.leave (v := some (.int (1 : Int32))) (fun h => by rw [Bd.returns] at h; cases h)
  refine ⟨_, _, pre26 _ ?_, hrun, hended, _, _, rfl, ?_, ⟨_, rfl⟩, hW, hsame.mono (by decide) (by decide)⟩
  · show Steps p.tables e below (T22.setTop (mkF m 189 #[.val (.int x1), .val (.int x2), .val (.int (if (2147483645 : Int32) < (x1 &&& (2147483647 : Int32)) then (2147483645 : Int32) else (x1 &&& (2147483647 : Int32)))), .val (.int (if ¬ ((x2 &&& (1 : Int32)) = (0 : Int32)) then (1 : Int32) else (0 : Int32))), .val (.int (if ¬ ((x2 &&& (2 : Int32)) = (0 : Int32)) then (1 : Int32) else (0 : Int32))), .val (.int (if ¬ ((x2 &&& (4 : Int32)) = (0 : Int32)) then (1 : Int32) else (0 : Int32))), .val (.ref b8), .val (.ref b12), .val (.ref b14), .val (.int (1 : Int32))] [(.int (if ¬ ((x2 &&& (1 : Int32)) = (0 : Int32)) then (1 : Int32) else (if ¬ ((x2 &&& (2 : Int32)) = (0 : Int32)) then (1 : Int32) else (if ¬ ((x2 &&& (4 : Int32)) = (0 : Int32)) then (1 : Int32) else (0 : Int32))))), (.int (if (if (if ¬ ((x2 &&& (1 : Int32)) = (0 : Int32)) then (1 : Int32) else (0 : Int32)) = (0 : Int32) then (if ¬ ((if ¬ ((x2 &&& (2 : Int32)) = (0 : Int32)) then (1 : Int32) else (0 : Int32)) = (0 : Int32)) then (1 : Int32) else (0 : Int32)) else (1 : Int32)) = (0 : Int32) then (if ¬ ((if ¬ ((x2 &&& (4 : Int32)) = (0 : Int32)) then (1 : Int32) else (0 : Int32)) = (0 : Int32)) then (1 : Int32) else (0 : Int32)) else (1 : Int32)))])) _
    refine XS.icmpNo X22.here hx rfl (hb hby at_189) rfl (teq (by by_cases hA : (x2 &&& (1 : Int32)) = (0 : Int32) <;> by_cases hB : (x2 &&& (2 : Int32)) = (0 : Int32) <;> by_cases hD : (x2 &&& (4 : Int32)) = (0 : Int32) <;> simp [hA, hB, hD] : (if (if (if ¬ ((x2 &&& (1 : Int32)) = (0 : Int32)) then (1 : Int32) else (0 : Int32)) = (0 : Int32) then (if ¬ ((if ¬ ((x2 &&& (2 : Int32)) = (0 : Int32)) then (1 : Int32) else (0 : Int32)) = (0 : Int32)) then (1 : Int32) else (0 : Int32)) else (1 : Int32)) = (0 : Int32) then (if ¬ ((if ¬ ((x2 &&& (4 : Int32)) = (0 : Int32)) then (1 : Int32) else (0 : Int32)) = (0 : Int32)) then (1 : Int32) else (0 : Int32)) else (1 : Int32)) = (if ¬ ((x2 &&& (1 : Int32)) = (0 : Int32)) then (1 : Int32) else (if ¬ ((x2 &&& (2 : Int32)) = (0 : Int32)) then (1 : Int32) else (if ¬ ((x2 &&& (4 : Int32)) = (0 : Int32)) then (1 : Int32) else (0 : Int32)))))).2 ?_
    show Steps p.tables e below (T22.setTop (mkF m 192 #[.val (.int x1), .val (.int x2), .val (.int (if (2147483645 : Int32) < (x1 &&& (2147483647 : Int32)) then (2147483645 : Int32) else (x1 &&& (2147483647 : Int32)))), .val (.int (if ¬ ((x2 &&& (1 : Int32)) = (0 : Int32)) then (1 : Int32) else (0 : Int32))), .val (.int (if ¬ ((x2 &&& (2 : Int32)) = (0 : Int32)) then (1 : Int32) else (0 : Int32))), .val (.int (if ¬ ((x2 &&& (4 : Int32)) = (0 : Int32)) then (1 : Int32) else (0 : Int32))), .val (.ref b8), .val (.ref b12), .val (.ref b14), .val (.int (1 : Int32))] [])) _
    refine XS.iconst X22.here hx rfl (hb hby at_192) ?_
    show Steps p.tables e below (T22.setTop (mkF m 193 #[.val (.int x1), .val (.int x2), .val (.int (if (2147483645 : Int32) < (x1 &&& (2147483647 : Int32)) then (2147483645 : Int32) else (x1 &&& (2147483647 : Int32)))), .val (.int (if ¬ ((x2 &&& (1 : Int32)) = (0 : Int32)) then (1 : Int32) else (0 : Int32))), .val (.int (if ¬ ((x2 &&& (2 : Int32)) = (0 : Int32)) then (1 : Int32) else (0 : Int32))), .val (.int (if ¬ ((x2 &&& (4 : Int32)) = (0 : Int32)) then (1 : Int32) else (0 : Int32))), .val (.ref b8), .val (.ref b12), .val (.ref b14), .val (.int (1 : Int32))] [(.int (1 : Int32))])) _
    refine XS.goto X22.here hx rfl (pc0 := 193) (pc' := 197) rfl (hb hby at_193) (by decide) (by decide) ?_
    show Steps p.tables e below (T22.setTop (mkF m 197 #[.val (.int x1), .val (.int x2), .val (.int (if (2147483645 : Int32) < (x1 &&& (2147483647 : Int32)) then (2147483645 : Int32) else (x1 &&& (2147483647 : Int32)))), .val (.int (if ¬ ((x2 &&& (1 : Int32)) = (0 : Int32)) then (1 : Int32) else (0 : Int32))), .val (.int (if ¬ ((x2 &&& (2 : Int32)) = (0 : Int32)) then (1 : Int32) else (0 : Int32))), .val (.int (if ¬ ((x2 &&& (4 : Int32)) = (0 : Int32)) then (1 : Int32) else (0 : Int32))), .val (.ref b8), .val (.ref b12), .val (.ref b14), .val (.int (1 : Int32))] [(.int (1 : Int32))])) _
    refine XS.istore X22.here hx rfl (hb hby at_197) rfl (l' := #[.val (.int x1), .val (.int x2), .val (.int (if (2147483645 : Int32) < (x1 &&& (2147483647 : Int32)) then (2147483645 : Int32) else (x1 &&& (2147483647 : Int32)))), .val (.int (if ¬ ((x2 &&& (1 : Int32)) = (0 : Int32)) then (1 : Int32) else (0 : Int32))), .val (.int (if ¬ ((x2 &&& (2 : Int32)) = (0 : Int32)) then (1 : Int32) else (0 : Int32))), .val (.int (if ¬ ((x2 &&& (4 : Int32)) = (0 : Int32)) then (1 : Int32) else (0 : Int32))), .val (.ref b8), .val (.ref b12), .val (.ref b14), .val (.int (1 : Int32))]) rfl ?_
    show Steps p.tables e below (T22.setTop (mkF m 199 #[.val (.int x1), .val (.int x2), .val (.int (if (2147483645 : Int32) < (x1 &&& (2147483647 : Int32)) then (2147483645 : Int32) else (x1 &&& (2147483647 : Int32)))), .val (.int (if ¬ ((x2 &&& (1 : Int32)) = (0 : Int32)) then (1 : Int32) else (0 : Int32))), .val (.int (if ¬ ((x2 &&& (2 : Int32)) = (0 : Int32)) then (1 : Int32) else (0 : Int32))), .val (.int (if ¬ ((x2 &&& (4 : Int32)) = (0 : Int32)) then (1 : Int32) else (0 : Int32))), .val (.ref b8), .val (.ref b12), .val (.ref b14), .val (.int (1 : Int32))] [])) _
    refine XS.iload X22.here hx rfl (hb hby at_199) rfl ?_
    show Steps p.tables e below (T22.setTop (mkF m 201 #[.val (.int x1), .val (.int x2), .val (.int (if (2147483645 : Int32) < (x1 &&& (2147483647 : Int32)) then (2147483645 : Int32) else (x1 &&& (2147483647 : Int32)))), .val (.int (if ¬ ((x2 &&& (1 : Int32)) = (0 : Int32)) then (1 : Int32) else (0 : Int32))), .val (.int (if ¬ ((x2 &&& (2 : Int32)) = (0 : Int32)) then (1 : Int32) else (0 : Int32))), .val (.int (if ¬ ((x2 &&& (4 : Int32)) = (0 : Int32)) then (1 : Int32) else (0 : Int32))), .val (.ref b8), .val (.ref b12), .val (.ref b14), .val (.int (1 : Int32))] [(.int (1 : Int32))])) _
    refine XS.ifNo X22.here hx rfl (hb hby at_201) rfl ((if0 _ _).trans (feq (by decide : ¬ ((1 : Int32) = (0 : Int32)))).1) ?_
    show Steps p.tables e below (T22.setTop (mkF m 204 #[.val (.int x1), .val (.int x2), .val (.int (if (2147483645 : Int32) < (x1 &&& (2147483647 : Int32)) then (2147483645 : Int32) else (x1 &&& (2147483647 : Int32)))), .val (.int (if ¬ ((x2 &&& (1 : Int32)) = (0 : Int32)) then (1 : Int32) else (0 : Int32))), .val (.int (if ¬ ((x2 &&& (2 : Int32)) = (0 : Int32)) then (1 : Int32) else (0 : Int32))), .val (.int (if ¬ ((x2 &&& (4 : Int32)) = (0 : Int32)) then (1 : Int32) else (0 : Int32))), .val (.ref b8), .val (.ref b12), .val (.ref b14), .val (.int (1 : Int32))] [])) _
    refine XS.aload X22.here hx rfl (hb hby at_204) rfl rfl ?_
    show Steps p.tables e below (T22.setTop (mkF m 206 #[.val (.int x1), .val (.int x2), .val (.int (if (2147483645 : Int32) < (x1 &&& (2147483647 : Int32)) then (2147483645 : Int32) else (x1 &&& (2147483647 : Int32)))), .val (.int (if ¬ ((x2 &&& (1 : Int32)) = (0 : Int32)) then (1 : Int32) else (0 : Int32))), .val (.int (if ¬ ((x2 &&& (2 : Int32)) = (0 : Int32)) then (1 : Int32) else (0 : Int32))), .val (.int (if ¬ ((x2 &&& (4 : Int32)) = (0 : Int32)) then (1 : Int32) else (0 : Int32))), .val (.ref b8), .val (.ref b12), .val (.ref b14), .val (.int (1 : Int32))] [(.ref b8)])) _
    refine st27.trans ?_
    show Steps p.tables e below (T27.setTop (mkF m 209 #[.val (.int x1), .val (.int x2), .val (.int (if (2147483645 : Int32) < (x1 &&& (2147483647 : Int32)) then (2147483645 : Int32) else (x1 &&& (2147483647 : Int32)))), .val (.int (if ¬ ((x2 &&& (1 : Int32)) = (0 : Int32)) then (1 : Int32) else (0 : Int32))), .val (.int (if ¬ ((x2 &&& (2 : Int32)) = (0 : Int32)) then (1 : Int32) else (0 : Int32))), .val (.int (if ¬ ((x2 &&& (4 : Int32)) = (0 : Int32)) then (1 : Int32) else (0 : Int32))), .val (.ref b8), .val (.ref b12), .val (.ref b14), .val (.int (1 : Int32))] [(.int (if (2147483645 : Int32) < (x1 &&& (2147483647 : Int32)) then (2147483645 : Int32) else (x1 &&& (2147483647 : Int32))))])) _
    refine XS.iloadN X27.here hx rfl (hb hby at_209) rfl ?_
    show Steps p.tables e below (T27.setTop (mkF m 210 #[.val (.int x1), .val (.int x2), .val (.int (if (2147483645 : Int32) < (x1 &&& (2147483647 : Int32)) then (2147483645 : Int32) else (x1 &&& (2147483647 : Int32)))), .val (.int (if ¬ ((x2 &&& (1 : Int32)) = (0 : Int32)) then (1 : Int32) else (0 : Int32))), .val (.int (if ¬ ((x2 &&& (2 : Int32)) = (0 : Int32)) then (1 : Int32) else (0 : Int32))), .val (.int (if ¬ ((x2 &&& (4 : Int32)) = (0 : Int32)) then (1 : Int32) else (0 : Int32))), .val (.ref b8), .val (.ref b12), .val (.ref b14), .val (.int (1 : Int32))] [(.int (if (2147483645 : Int32) < (x1 &&& (2147483647 : Int32)) then (2147483645 : Int32) else (x1 &&& (2147483647 : Int32)))), (.int (if (2147483645 : Int32) < (x1 &&& (2147483647 : Int32)) then (2147483645 : Int32) else (x1 &&& (2147483647 : Int32))))])) _
    refine XS.icmpNo X27.here hx rfl (hb hby at_210) rfl (teq (rfl : (if (2147483645 : Int32) < (x1 &&& (2147483647 : Int32)) then (2147483645 : Int32) else (x1 &&& (2147483647 : Int32))) = (if (2147483645 : Int32) < (x1 &&& (2147483647 : Int32)) then (2147483645 : Int32) else (x1 &&& (2147483647 : Int32))))).2 ?_
    show Steps p.tables e below (T27.setTop (mkF m 213 #[.val (.int x1), .val (.int x2), .val (.int (if (2147483645 : Int32) < (x1 &&& (2147483647 : Int32)) then (2147483645 : Int32) else (x1 &&& (2147483647 : Int32)))), .val (.int (if ¬ ((x2 &&& (1 : Int32)) = (0 : Int32)) then (1 : Int32) else (0 : Int32))), .val (.int (if ¬ ((x2 &&& (2 : Int32)) = (0 : Int32)) then (1 : Int32) else (0 : Int32))), .val (.int (if ¬ ((x2 &&& (4 : Int32)) = (0 : Int32)) then (1 : Int32) else (0 : Int32))), .val (.ref b8), .val (.ref b12), .val (.ref b14), .val (.int (1 : Int32))] [])) _
    refine XS.iconst X27.here hx rfl (hb hby at_213) ?_
    show Steps p.tables e below (T27.setTop (mkF m 214 #[.val (.int x1), .val (.int x2), .val (.int (if (2147483645 : Int32) < (x1 &&& (2147483647 : Int32)) then (2147483645 : Int32) else (x1 &&& (2147483647 : Int32)))), .val (.int (if ¬ ((x2 &&& (1 : Int32)) = (0 : Int32)) then (1 : Int32) else (0 : Int32))), .val (.int (if ¬ ((x2 &&& (2 : Int32)) = (0 : Int32)) then (1 : Int32) else (0 : Int32))), .val (.int (if ¬ ((x2 &&& (4 : Int32)) = (0 : Int32)) then (1 : Int32) else (0 : Int32))), .val (.ref b8), .val (.ref b12), .val (.ref b14), .val (.int (1 : Int32))] [(.int (1 : Int32))])) _
    refine XS.goto X27.here hx rfl (pc0 := 214) (pc' := 218) rfl (hb hby at_214) (by decide) (by decide) ?_
    show Steps p.tables e below (T27.setTop (mkF m 218 #[.val (.int x1), .val (.int x2), .val (.int (if (2147483645 : Int32) < (x1 &&& (2147483647 : Int32)) then (2147483645 : Int32) else (x1 &&& (2147483647 : Int32)))), .val (.int (if ¬ ((x2 &&& (1 : Int32)) = (0 : Int32)) then (1 : Int32) else (0 : Int32))), .val (.int (if ¬ ((x2 &&& (2 : Int32)) = (0 : Int32)) then (1 : Int32) else (0 : Int32))), .val (.int (if ¬ ((x2 &&& (4 : Int32)) = (0 : Int32)) then (1 : Int32) else (0 : Int32))), .val (.ref b8), .val (.ref b12), .val (.ref b14), .val (.int (1 : Int32))] [(.int (1 : Int32))])) _
    refine XS.istore X27.here hx rfl (hb hby at_218) rfl (l' := #[.val (.int x1), .val (.int x2), .val (.int (if (2147483645 : Int32) < (x1 &&& (2147483647 : Int32)) then (2147483645 : Int32) else (x1 &&& (2147483647 : Int32)))), .val (.int (if ¬ ((x2 &&& (1 : Int32)) = (0 : Int32)) then (1 : Int32) else (0 : Int32))), .val (.int (if ¬ ((x2 &&& (2 : Int32)) = (0 : Int32)) then (1 : Int32) else (0 : Int32))), .val (.int (if ¬ ((x2 &&& (4 : Int32)) = (0 : Int32)) then (1 : Int32) else (0 : Int32))), .val (.ref b8), .val (.ref b12), .val (.ref b14), .val (.int (1 : Int32))]) rfl ?_
    show Steps p.tables e below (T27.setTop (mkF m 220 #[.val (.int x1), .val (.int x2), .val (.int (if (2147483645 : Int32) < (x1 &&& (2147483647 : Int32)) then (2147483645 : Int32) else (x1 &&& (2147483647 : Int32)))), .val (.int (if ¬ ((x2 &&& (1 : Int32)) = (0 : Int32)) then (1 : Int32) else (0 : Int32))), .val (.int (if ¬ ((x2 &&& (2 : Int32)) = (0 : Int32)) then (1 : Int32) else (0 : Int32))), .val (.int (if ¬ ((x2 &&& (4 : Int32)) = (0 : Int32)) then (1 : Int32) else (0 : Int32))), .val (.ref b8), .val (.ref b12), .val (.ref b14), .val (.int (1 : Int32))] [])) _
    refine XS.iload X27.here hx rfl (hb hby at_220) rfl ?_
    show Steps p.tables e below (T27.setTop (mkF m 222 #[.val (.int x1), .val (.int x2), .val (.int (if (2147483645 : Int32) < (x1 &&& (2147483647 : Int32)) then (2147483645 : Int32) else (x1 &&& (2147483647 : Int32)))), .val (.int (if ¬ ((x2 &&& (1 : Int32)) = (0 : Int32)) then (1 : Int32) else (0 : Int32))), .val (.int (if ¬ ((x2 &&& (2 : Int32)) = (0 : Int32)) then (1 : Int32) else (0 : Int32))), .val (.int (if ¬ ((x2 &&& (4 : Int32)) = (0 : Int32)) then (1 : Int32) else (0 : Int32))), .val (.ref b8), .val (.ref b12), .val (.ref b14), .val (.int (1 : Int32))] [(.int (1 : Int32))])) _
    refine XS.ifNo X27.here hx rfl (hb hby at_222) rfl ((if0 _ _).trans (feq (by decide : ¬ ((1 : Int32) = (0 : Int32)))).1) ?_
    show Steps p.tables e below (T27.setTop (mkF m 225 #[.val (.int x1), .val (.int x2), .val (.int (if (2147483645 : Int32) < (x1 &&& (2147483647 : Int32)) then (2147483645 : Int32) else (x1 &&& (2147483647 : Int32)))), .val (.int (if ¬ ((x2 &&& (1 : Int32)) = (0 : Int32)) then (1 : Int32) else (0 : Int32))), .val (.int (if ¬ ((x2 &&& (2 : Int32)) = (0 : Int32)) then (1 : Int32) else (0 : Int32))), .val (.int (if ¬ ((x2 &&& (4 : Int32)) = (0 : Int32)) then (1 : Int32) else (0 : Int32))), .val (.ref b8), .val (.ref b12), .val (.ref b14), .val (.int (1 : Int32))] [])) _
    refine XS.aload X27.here hx rfl (hb hby at_225) rfl rfl ?_
    show Steps p.tables e below (T27.setTop (mkF m 227 #[.val (.int x1), .val (.int x2), .val (.int (if (2147483645 : Int32) < (x1 &&& (2147483647 : Int32)) then (2147483645 : Int32) else (x1 &&& (2147483647 : Int32)))), .val (.int (if ¬ ((x2 &&& (1 : Int32)) = (0 : Int32)) then (1 : Int32) else (0 : Int32))), .val (.int (if ¬ ((x2 &&& (2 : Int32)) = (0 : Int32)) then (1 : Int32) else (0 : Int32))), .val (.int (if ¬ ((x2 &&& (4 : Int32)) = (0 : Int32)) then (1 : Int32) else (0 : Int32))), .val (.ref b8), .val (.ref b12), .val (.ref b14), .val (.int (1 : Int32))] [(.ref b8)])) _
    refine st28.trans ?_
    show Steps p.tables e below (T28.setTop (mkF m 230 #[.val (.int x1), .val (.int x2), .val (.int (if (2147483645 : Int32) < (x1 &&& (2147483647 : Int32)) then (2147483645 : Int32) else (x1 &&& (2147483647 : Int32)))), .val (.int (if ¬ ((x2 &&& (1 : Int32)) = (0 : Int32)) then (1 : Int32) else (0 : Int32))), .val (.int (if ¬ ((x2 &&& (2 : Int32)) = (0 : Int32)) then (1 : Int32) else (0 : Int32))), .val (.int (if ¬ ((x2 &&& (4 : Int32)) = (0 : Int32)) then (1 : Int32) else (0 : Int32))), .val (.ref b8), .val (.ref b12), .val (.ref b14), .val (.int (1 : Int32))] [(.int (if ¬ ((x2 &&& (1 : Int32)) = (0 : Int32)) then (1 : Int32) else (0 : Int32)))])) _
    refine XS.iloadN X28.here hx rfl (hb hby at_230) rfl ?_
    show Steps p.tables e below (T28.setTop (mkF m 231 #[.val (.int x1), .val (.int x2), .val (.int (if (2147483645 : Int32) < (x1 &&& (2147483647 : Int32)) then (2147483645 : Int32) else (x1 &&& (2147483647 : Int32)))), .val (.int (if ¬ ((x2 &&& (1 : Int32)) = (0 : Int32)) then (1 : Int32) else (0 : Int32))), .val (.int (if ¬ ((x2 &&& (2 : Int32)) = (0 : Int32)) then (1 : Int32) else (0 : Int32))), .val (.int (if ¬ ((x2 &&& (4 : Int32)) = (0 : Int32)) then (1 : Int32) else (0 : Int32))), .val (.ref b8), .val (.ref b12), .val (.ref b14), .val (.int (1 : Int32))] [(.int (if ¬ ((x2 &&& (1 : Int32)) = (0 : Int32)) then (1 : Int32) else (0 : Int32))), (.int (if ¬ ((x2 &&& (1 : Int32)) = (0 : Int32)) then (1 : Int32) else (0 : Int32)))])) _
    refine XS.icmpNo X28.here hx rfl (hb hby at_231) rfl (teq (rfl : (if ¬ ((x2 &&& (1 : Int32)) = (0 : Int32)) then (1 : Int32) else (0 : Int32)) = (if ¬ ((x2 &&& (1 : Int32)) = (0 : Int32)) then (1 : Int32) else (0 : Int32)))).2 ?_
    show Steps p.tables e below (T28.setTop (mkF m 234 #[.val (.int x1), .val (.int x2), .val (.int (if (2147483645 : Int32) < (x1 &&& (2147483647 : Int32)) then (2147483645 : Int32) else (x1 &&& (2147483647 : Int32)))), .val (.int (if ¬ ((x2 &&& (1 : Int32)) = (0 : Int32)) then (1 : Int32) else (0 : Int32))), .val (.int (if ¬ ((x2 &&& (2 : Int32)) = (0 : Int32)) then (1 : Int32) else (0 : Int32))), .val (.int (if ¬ ((x2 &&& (4 : Int32)) = (0 : Int32)) then (1 : Int32) else (0 : Int32))), .val (.ref b8), .val (.ref b12), .val (.ref b14), .val (.int (1 : Int32))] [])) _
    refine XS.iconst X28.here hx rfl (hb hby at_234) ?_
    show Steps p.tables e below (T28.setTop (mkF m 235 #[.val (.int x1), .val (.int x2), .val (.int (if (2147483645 : Int32) < (x1 &&& (2147483647 : Int32)) then (2147483645 : Int32) else (x1 &&& (2147483647 : Int32)))), .val (.int (if ¬ ((x2 &&& (1 : Int32)) = (0 : Int32)) then (1 : Int32) else (0 : Int32))), .val (.int (if ¬ ((x2 &&& (2 : Int32)) = (0 : Int32)) then (1 : Int32) else (0 : Int32))), .val (.int (if ¬ ((x2 &&& (4 : Int32)) = (0 : Int32)) then (1 : Int32) else (0 : Int32))), .val (.ref b8), .val (.ref b12), .val (.ref b14), .val (.int (1 : Int32))] [(.int (1 : Int32))])) _
    refine XS.goto X28.here hx rfl (pc0 := 235) (pc' := 239) rfl (hb hby at_235) (by decide) (by decide) ?_
    show Steps p.tables e below (T28.setTop (mkF m 239 #[.val (.int x1), .val (.int x2), .val (.int (if (2147483645 : Int32) < (x1 &&& (2147483647 : Int32)) then (2147483645 : Int32) else (x1 &&& (2147483647 : Int32)))), .val (.int (if ¬ ((x2 &&& (1 : Int32)) = (0 : Int32)) then (1 : Int32) else (0 : Int32))), .val (.int (if ¬ ((x2 &&& (2 : Int32)) = (0 : Int32)) then (1 : Int32) else (0 : Int32))), .val (.int (if ¬ ((x2 &&& (4 : Int32)) = (0 : Int32)) then (1 : Int32) else (0 : Int32))), .val (.ref b8), .val (.ref b12), .val (.ref b14), .val (.int (1 : Int32))] [(.int (1 : Int32))])) _
    refine XS.istore X28.here hx rfl (hb hby at_239) rfl (l' := #[.val (.int x1), .val (.int x2), .val (.int (if (2147483645 : Int32) < (x1 &&& (2147483647 : Int32)) then (2147483645 : Int32) else (x1 &&& (2147483647 : Int32)))), .val (.int (if ¬ ((x2 &&& (1 : Int32)) = (0 : Int32)) then (1 : Int32) else (0 : Int32))), .val (.int (if ¬ ((x2 &&& (2 : Int32)) = (0 : Int32)) then (1 : Int32) else (0 : Int32))), .val (.int (if ¬ ((x2 &&& (4 : Int32)) = (0 : Int32)) then (1 : Int32) else (0 : Int32))), .val (.ref b8), .val (.ref b12), .val (.ref b14), .val (.int (1 : Int32))]) rfl ?_
    show Steps p.tables e below (T28.setTop (mkF m 241 #[.val (.int x1), .val (.int x2), .val (.int (if (2147483645 : Int32) < (x1 &&& (2147483647 : Int32)) then (2147483645 : Int32) else (x1 &&& (2147483647 : Int32)))), .val (.int (if ¬ ((x2 &&& (1 : Int32)) = (0 : Int32)) then (1 : Int32) else (0 : Int32))), .val (.int (if ¬ ((x2 &&& (2 : Int32)) = (0 : Int32)) then (1 : Int32) else (0 : Int32))), .val (.int (if ¬ ((x2 &&& (4 : Int32)) = (0 : Int32)) then (1 : Int32) else (0 : Int32))), .val (.ref b8), .val (.ref b12), .val (.ref b14), .val (.int (1 : Int32))] [])) _
    refine XS.iload X28.here hx rfl (hb hby at_241) rfl ?_
    show Steps p.tables e below (T28.setTop (mkF m 243 #[.val (.int x1), .val (.int x2), .val (.int (if (2147483645 : Int32) < (x1 &&& (2147483647 : Int32)) then (2147483645 : Int32) else (x1 &&& (2147483647 : Int32)))), .val (.int (if ¬ ((x2 &&& (1 : Int32)) = (0 : Int32)) then (1 : Int32) else (0 : Int32))), .val (.int (if ¬ ((x2 &&& (2 : Int32)) = (0 : Int32)) then (1 : Int32) else (0 : Int32))), .val (.int (if ¬ ((x2 &&& (4 : Int32)) = (0 : Int32)) then (1 : Int32) else (0 : Int32))), .val (.ref b8), .val (.ref b12), .val (.ref b14), .val (.int (1 : Int32))] [(.int (1 : Int32))])) _
    exact retN X28 hx (t := .boolean) Bd.returns (by simp) (hb hby at_243) hr
  · show own_Q_own_law Z x1 x2 h0 n0 _ T28.heap _
    rw [e28]
    exact ⟨rfl, N28⟩
set_option maxRecDepth 65536 in
set_option maxHeartbeats 40000000 in
theorem own_comes_1 {Post : Tables → Env → Array Value → State → Outcome → State → Prop} (hpost : ∀ tb e args s v u, (limb_1_1.after args s (.returned v) u = true ∧ limb_1_2.after args s (.returned v) u = true ∧ True) → FrameEnd s (.returned v) u (Jvm.fieldLocs frame_1_writes args s ++ Jvm.arrayLocs frame_1_arrays args s ++ Jvm.staticLocs frame_1_statics s) 16 128 → Post tb e args s (.returned v) u) :
    ArmFor flags0 classFile x code maxLocals ret World_1 tables_1 room_1 Calls_1 rest_1 Pre_1 Post := by
  intro l hfl _ _ p e ha hc hk s m args below hf hA hF happ hP
  obtain ⟨hcalls, hrest, hpre⟩ := hP
  obtain ⟨-, -, -, hnamed, -, -, -, hat⟩ := (Spec.applies_iff hf).mp happ
  obtain ⟨hg, hn⟩ := and_e (Cond.before_iff.mp (show (Jvm.Cond.and given_1 narrow_1).before args s = true from hpre))
  obtain ⟨g1, g2⟩ := and_e hg
  obtain ⟨g3, g4⟩ := and_e g2
  obtain ⟨w0, w1, rfl⟩ : ∃ w0 w1 : Value, args = #[w0, w1] := by
    have hs : args.size = 2 := by simpa [Cond.value, given_1] using g1
    obtain ⟨L⟩ := args
    match L, hs with
    | [w0, w1], _ => exact ⟨w0, w1, rfl⟩
  have hw := fun d (hd : d ∈ tables_1) => atoms_spec (ws := Jvm.Cond.code x code maxLocals ret :: tables_1) hat d (List.mem_cons_of_mem _ hd)
  have hfit : Fit s := fun {y c} hc i hi => by
    obtain ⟨ha, rfl⟩ := Array.getElem?_eq_some_iff.mp hc
    have q := List.all_eq_true.mp ((Array.all_eq_true_iff_forall_mem.mp hF) _ (Array.getElem_mem ha)) i (List.mem_range.mpr hi)
    simpa [Array.getElem?_eq_getElem hi] using q
  obtain ⟨i0, ei0⟩ := is_v g3
  obtain rfl : w0 = (.int i0) := Option.some.inj ei0
  obtain ⟨i1, ei1⟩ := is_v g4
  obtain rfl : w1 = (.int i1) := Option.some.inj ei1
  obtain ⟨n, o, h1, h2, h3, _, L, rfl, ⟨rfl, N⟩, hq⟩ := own_law l s _ hw tables_1 i0 i1  s.heap s.heap.size (Nat.le_refl _)  p e ha hc hk s m _ below hf ((Spec.applies_iff_loose hf).mp happ).1 ⟨rfl, State.Warmed39.refl s, rfl⟩ trivial
  refine ⟨n, _, h1, h2, h3, hpost _ _ _ _ _ _ ⟨Cond.after_iff.mpr rfl, Cond.after_iff.mpr (eq_i res_at (Term.int_eval (1)) rfl), trivial⟩ ⟨hq.1, hq.2.1, (hq.2.2.sift fun y hy => Or.inr (N y hy)).mono (by decide) (by decide)⟩⟩
theorem main_1_1 : Claimed_1_1 := own_comes_1 fun _ _ _ _ _ _ h hF => ⟨h.1, hF⟩
theorem main_1_2 : Claimed_1_2 := own_comes_1 fun _ _ _ _ _ _ h hF => ⟨h.2.1, hF⟩
end Jvm.Pilot.@@N@@
namespace Jvm.Pilot.@@N@@
open Jvm Jvm.ClassFile Sem Op Lib Jvm.Free Jvm.Stand Jvm.Pilot.@@N@@.Jvm.D
/-! MADE BY PROGRAM (witnessworld.py) out of the Statement's table words and the real class files: 10 classes; the members and pool entries that the words name. The judged class is class 1, her method 1. -/
namespace start1
open Jvm.ClassFile
def u (s : String) : CpInfo := .utf8 (stringToUtf16 s)
/-- a pool by its gaps: so many unusable entries, then the entry; so many at the end -/
def gap : Nat → List CpInfo → List CpInfo
  | 0, r => r
  | n + 1, r => .unusable :: gap n r
def poolList (es : List (Nat × CpInfo)) (last : Nat) : List CpInfo := es.foldr (fun e r => gap e.1 (e.2 :: r)) (gap last [])
def pool (es : List (Nat × CpInfo)) (last : Nat) : Array CpInfo := ⟨poolList es last⟩
def fileOf (pool : Array CpInfo) (this : Nat) (attrs : Array Attribute := #[]) (ms : Array MethodInfo := #[]) (fl : Nat := 33) (sup : Nat := 0) (ifs : Array Nat := #[]) (fds : Array FieldInfo := #[]) : ClassFile where
  minorVersion := 0
  majorVersion := 65
  constantPool := pool
  accessFlags := fl
  thisClass := this
  superClass := sup
  interfaces := ifs
  fields := fds
  methods := ms
  attributes := attrs
def plain (name : String) (sup : Option ClassId) : Class where
  name := name
  kind := .ordinary
  loader := none
  accessFlags := 33
  super := sup
  interfaces := #[]
  cf := none
  fields := #[]
  methods := #[]
  instanceTypes := #[]
  staticTypes := #[]
  resolved := #[]
  callSites := []
  init := .initialized
  statics := none
  mirror := none

def pool0 : Array CpInfo := pool [(5, u "<init>"), (0, u "()V"), (1, .class_ 10), (1, u "java/lang/Object")] 113

def k0c0 : Code := { maxStack := 0, maxLocals := 1, code := object_method_1_code, exceptionTable := #[], attributes := #[] }
def k0m0 : Method := { name := "<init>", desc := "()V", sig := { parameters := [], returnType := none }, accessFlags := 1, code := some k0c0 }
/-- java/lang/Object -/
def k0 : Class := { plain "java/lang/Object" none with
  accessFlags := 33
  interfaces := #[]
  cf := some (fileOf pool0 8 #[] #[{ accessFlags := 1, nameIndex := 5, descriptorIndex := 6, attributes := #[] }] 33 0 #[] #[])
  fields := #[]
  methods := #[k0m0]
  instanceTypes := #[]
  staticTypes := #[]
  resolved := Array.replicate 124 none
  statics := none }

def pool1 : Array CpInfo := pool [(2, .class_ 4), (1, u "java/lang/Object"), (0, u "<init>"), (0, u "()V"), (0, .integer 2147483647), (2, .integer 2147483645), (0, .methodref 12 13), (0, .class_ 14), (0, .nameAndType 15 16), (0, u "java/lang/Math"), (0, u "min"), (0, u "(II)I"), (0, .class_ 18), (0, u "com/example/millrace/millrace/engine/Arrivals"), (0, .methodref 17 20), (0, .nameAndType 5 21), (0, u "(IZ)V"), (0, .methodref 17 23), (0, .nameAndType 24 25), (0, u "with"), (0, u "(Z)Lcom/example/millrace/millrace/engine/Arrivals;"), (0, .methodref 17 27), (0, .nameAndType 28 29), (0, u "count"), (0, u "()I"), (0, .methodref 17 31), (0, .nameAndType 32 33), (0, u "live"), (0, u "()Z"), (0, .class_ 35), (0, u "com/example/millrace/millrace/engine/ArrivalsWithPinLaw"), (2, u "law"), (0, u "(II)Z")] 3

def k1m0 : Method := { name := "<init>", desc := "()V", sig := { parameters := [], returnType := none }, accessFlags := 1, code := none }
def k1c1 : Code := { maxStack := 4, maxLocals := 10, code := code, exceptionTable := #[], attributes := #[] }
def k1m1 : Method := { name := "law", desc := "(II)Z", sig := { parameters := [.int, .int], returnType := some .boolean }, accessFlags := 9, code := some k1c1 }
/-- com/example/millrace/millrace/engine/ArrivalsWithPinLaw -/
def k1 : Class := { plain "com/example/millrace/millrace/engine/ArrivalsWithPinLaw" (some 0) with
  accessFlags := 49
  interfaces := #[]
  cf := some (fileOf pool1 34 #[] #[{ accessFlags := 1, nameIndex := 5, descriptorIndex := 6, attributes := #[] }, { accessFlags := 9, nameIndex := 38, descriptorIndex := 39, attributes := #[] }] 49 2 #[] #[])
  fields := #[]
  methods := #[k1m0, k1m1]
  instanceTypes := #[]
  staticTypes := #[]
  resolved := Array.replicate 43 none
  statics := none }

def pool2 : Array CpInfo := pool [(1, .class_ 2), (0, u "java/lang/Math"), (1, .class_ 6), (1, u "java/lang/Object"), (0, u "<init>"), (0, u "()V"), (89, .class_ 100), (1, u "java/lang/Math$RandomNumberGeneratorHolder"), (71, u "negativeZeroFloatBits"), (0, u "J"), (2, u "negativeZeroDoubleBits"), (24, u "min"), (43, u "$assertionsDisabled"), (0, u "Z"), (88, u "(II)I"), (2, u "twoToTheDoubleScaleDown"), (0, u "D"), (4, u "twoToTheDoubleScaleUp"), (9, u "E"), (3, u "PI"), (2, u "TAU"), (2, u "DEGREES_TO_RADIANS"), (0, u "RADIANS_TO_DEGREES")] 94

def k2m0 : Method := { name := "<init>", desc := "()V", sig := { parameters := [], returnType := none }, accessFlags := 2, code := none }
def k2c1 : Code := { maxStack := 2, maxLocals := 2, code := jdk_29_method_69_code, exceptionTable := #[], attributes := #[] }
def k2m1 : Method := { name := "min", desc := "(II)I", sig := { parameters := [.int, .int], returnType := some .int }, accessFlags := 9, code := some k2c1 }
/-- java/lang/Math -/
def k2 : Class := { plain "java/lang/Math" (some 0) with
  accessFlags := 49
  interfaces := #[]
  cf := some (fileOf pool2 1 #[.nestMembers #[98]] #[{ accessFlags := 2, nameIndex := 7, descriptorIndex := 8, attributes := #[] }, { accessFlags := 9, nameIndex := 201, descriptorIndex := 335, attributes := #[] }] 49 4 #[] #[{ accessFlags := 25, nameIndex := 354, descriptorIndex := 339, attributes := #[] }, { accessFlags := 25, nameIndex := 358, descriptorIndex := 339, attributes := #[] }, { accessFlags := 25, nameIndex := 361, descriptorIndex := 339, attributes := #[] }, { accessFlags := 26, nameIndex := 364, descriptorIndex := 339, attributes := #[] }, { accessFlags := 26, nameIndex := 365, descriptorIndex := 339, attributes := #[] }, { accessFlags := 26, nameIndex := 172, descriptorIndex := 173, attributes := #[] }, { accessFlags := 26, nameIndex := 176, descriptorIndex := 173, attributes := #[] }, { accessFlags := 8, nameIndex := 344, descriptorIndex := 339, attributes := #[] }, { accessFlags := 8, nameIndex := 338, descriptorIndex := 339, attributes := #[] }, { accessFlags := 4120, nameIndex := 245, descriptorIndex := 246, attributes := #[] }])
  fields := #[{ name := "E", type := .double, accessFlags := 25, slot := 0, constantValue := 0 }, { name := "PI", type := .double, accessFlags := 25, slot := 1, constantValue := 0 }, { name := "TAU", type := .double, accessFlags := 25, slot := 2, constantValue := 0 }, { name := "DEGREES_TO_RADIANS", type := .double, accessFlags := 26, slot := 3, constantValue := 0 }, { name := "RADIANS_TO_DEGREES", type := .double, accessFlags := 26, slot := 4, constantValue := 0 }, { name := "negativeZeroFloatBits", type := .long, accessFlags := 26, slot := 5, constantValue := 0 }, { name := "negativeZeroDoubleBits", type := .long, accessFlags := 26, slot := 6, constantValue := 0 }, { name := "twoToTheDoubleScaleUp", type := .double, accessFlags := 8, slot := 7, constantValue := 0 }, { name := "twoToTheDoubleScaleDown", type := .double, accessFlags := 8, slot := 8, constantValue := 0 }, { name := "$assertionsDisabled", type := .boolean, accessFlags := 4120, slot := 9, constantValue := 0 }]
  methods := #[k2m0, k2m1]
  instanceTypes := #[]
  staticTypes := #[.double, .double, .double, .double, .double, .long, .long, .double, .double, .boolean]
  resolved := Array.replicate 460 none
  statics := none }

def pool3 : Array CpInfo := pool [(1, .methodref 2 3), (0, .class_ 4), (0, .nameAndType 5 6), (0, u "java/lang/Object"), (0, u "<init>"), (0, u "()V"), (0, .fieldref 8 9), (0, .class_ 10), (0, .nameAndType 11 12), (0, u "com/example/millrace/millrace/engine/Arrivals"), (0, u "count"), (0, u "I"), (0, .fieldref 8 14), (0, .nameAndType 15 16), (0, u "live"), (0, u "Z"), (0, .methodref 8 18), (0, .nameAndType 5 19), (0, u "(IZ)V"), (2, u "NONE"), (0, u "Lcom/example/millrace/millrace/engine/Arrivals;"), (2, u "()I"), (0, u "()Z"), (0, u "with"), (0, u "(Z)Lcom/example/millrace/millrace/engine/Arrivals;")] 4

def k3c0 : Code := { maxStack := 2, maxLocals := 3, code := prog_25_method_1_code, exceptionTable := #[], attributes := #[] }
def k3m0 : Method := { name := "<init>", desc := "(IZ)V", sig := { parameters := [.int, .boolean], returnType := none }, accessFlags := 0, code := some k3c0 }
def k3c1 : Code := { maxStack := 1, maxLocals := 1, code := prog_25_method_2_code, exceptionTable := #[], attributes := #[] }
def k3m1 : Method := { name := "count", desc := "()I", sig := { parameters := [], returnType := some .int }, accessFlags := 0, code := some k3c1 }
def k3c2 : Code := { maxStack := 1, maxLocals := 1, code := prog_25_method_3_code, exceptionTable := #[], attributes := #[] }
def k3m2 : Method := { name := "live", desc := "()Z", sig := { parameters := [], returnType := some .boolean }, accessFlags := 0, code := some k3c2 }
def k3c3 : Code := { maxStack := 4, maxLocals := 2, code := prog_25_method_4_code, exceptionTable := #[], attributes := #[] }
def k3m3 : Method := { name := "with", desc := "(Z)Lcom/example/millrace/millrace/engine/Arrivals;", sig := { parameters := [.boolean], returnType := some (.object "com/example/millrace/millrace/engine/Arrivals") }, accessFlags := 0, code := some k3c3 }
/-- com/example/millrace/millrace/engine/Arrivals -/
def k3 : Class := { plain "com/example/millrace/millrace/engine/Arrivals" (some 0) with
  accessFlags := 48
  interfaces := #[]
  cf := some (fileOf pool3 8 #[] #[{ accessFlags := 0, nameIndex := 5, descriptorIndex := 19, attributes := #[] }, { accessFlags := 0, nameIndex := 11, descriptorIndex := 26, attributes := #[] }, { accessFlags := 0, nameIndex := 15, descriptorIndex := 27, attributes := #[] }, { accessFlags := 0, nameIndex := 28, descriptorIndex := 29, attributes := #[] }] 48 2 #[] #[{ accessFlags := 24, nameIndex := 22, descriptorIndex := 23, attributes := #[] }, { accessFlags := 18, nameIndex := 11, descriptorIndex := 12, attributes := #[] }, { accessFlags := 18, nameIndex := 15, descriptorIndex := 16, attributes := #[] }])
  fields := #[{ name := "NONE", type := (.object "com/example/millrace/millrace/engine/Arrivals"), accessFlags := 24, slot := 0, constantValue := 0 }, { name := "count", type := .int, accessFlags := 18, slot := 0, constantValue := 0 }, { name := "live", type := .boolean, accessFlags := 18, slot := 1, constantValue := 0 }]
  methods := #[k3m0, k3m1, k3m2, k3m3]
  instanceTypes := #[.int, .boolean]
  staticTypes := #[(.object "com/example/millrace/millrace/engine/Arrivals")]
  resolved := Array.replicate 34 none
  statics := none }

def pool4 : Array CpInfo := pool [(1, u "java/lang/Cloneable"), (0, .class_ 1), (0, u "java/lang/Object"), (0, .class_ 3)] 3

/-- java/lang/Cloneable -/
def k4 : Class := { plain "java/lang/Cloneable" (some 0) with
  accessFlags := 1537
  interfaces := #[]
  cf := some (fileOf pool4 2 #[] #[] 1537 4 #[] #[])
  fields := #[]
  methods := #[]
  instanceTypes := #[]
  staticTypes := #[]
  resolved := Array.replicate 8 none
  statics := none }

def pool5 : Array CpInfo := pool [(1, u "java/io/Serializable"), (0, .class_ 1), (0, u "java/lang/Object"), (0, .class_ 3)] 3

/-- java/io/Serializable -/
def k5 : Class := { plain "java/io/Serializable" (some 0) with
  accessFlags := 1537
  interfaces := #[]
  cf := some (fileOf pool5 2 #[] #[] 1537 4 #[] #[])
  fields := #[]
  methods := #[]
  instanceTypes := #[]
  staticTypes := #[]
  resolved := Array.replicate 8 none
  statics := none }

/-- the primitive byte -/
def k6 : Class := { plain "byte" none with kind := .primitive 'B', accessFlags := 0x411 }
/-- [B -/
def k7 : Class := { plain "[B" (some 0) with kind := .array 6 .byte, interfaces := #[4, 5], accessFlags := 1041 }

/-- the primitive int -/
def k8 : Class := { plain "int" none with kind := .primitive 'I', accessFlags := 0x411 }
/-- [I -/
def k9 : Class := { plain "[I" (some 0) with kind := .array 8 .int, interfaces := #[4, 5], accessFlags := 1041 }

def heap : Heap := #[]
def classes : Array Class := #[k0, k1, k2, k3, k4, k5, k6, k7, k8, k9]
def interned : List (Array UInt16 × Addr) := []
def slotsUsed : Nat := 0
def theMethod : MethodId := ⟨1, 1⟩
def args0 : Array Value := #[.int 77, .int 9]
def aboutOver (below : List Frame) : State where
  vm := { classes := classes, interned := interned.toArray }
  heap := heap
  slotsUsed := slotsUsed
  threads := #[{ frames := .invoking theMethod args0 :: below }]
def below0 : List Frame := [.native { method := ⟨0, 0⟩, args := #[] }]
def about1 : State := aboutOver below0
def p0 : Program := .bare "" "" ""
def e0 : Env := launch0.env 0 0 0
theorem w_frames : about1.frames = Frame.invoking theMethod args0 :: below0 := rfl
set_option maxRecDepth 65536 in
theorem w_args : argsFit about1.vm theMethod args0 = true := by decide +kernel
set_option maxRecDepth 65536 in
theorem w_heap : heapFits about1 = true := by decide +kernel
set_option maxRecDepth 65536 in
theorem w_runnable : about1.curStatus? = some .runnable := by decide +kernel
set_option maxRecDepth 65536 in
theorem w_alone : about1.alone = true := by decide +kernel
set_option maxRecDepth 65536 in
theorem w_named : about1.methodNamed? x = some theMethod := by decide +kernel
set_option maxRecDepth 65536 in
theorem w_hears : about1.hears theMethod below0 = true := by decide +kernel
set_option maxRecDepth 65536 in
theorem w_ripe : about1.ripe theMethod args0 below0 = true := by decide +kernel
theorem w_running : about1.status = .running := rfl
set_option maxRecDepth 65536 in
theorem w_room : about1.hasRoom e0.platform room_1 = true :=
  launch0.hasRoom_least _ room_1 (by decide +kernel) (by decide +kernel) (by decide +kernel) (by decide +kernel) (by decide +kernel) (by decide +kernel)
theorem allAtoms_all (ts : List Jvm.Cond) (a : Array Jvm.Value) (st : Jvm.State) : (allAtoms ts).before a st = ts.all (fun c => c.before a st) := by
  induction ts with
  | nil => rfl
  | cons c t ih =>
    show (Jvm.Cond.and c (allAtoms t)).before a st = _
    rw [Jvm.Cond.before_and, ih, List.all_cons]
def words1 : List Jvm.Cond := Jvm.Cond.code x code maxLocals ret :: tables_1
/-- a 'code' word, met by the world's own term for the bytes: nothing is compared byte by byte -/
theorem code_word {y : MethodName} {bytes : ByteArray} {mx : Nat} {rt : Option FieldType} {a : Array Value} {s : State} {m : MethodId} {meth : Method} {c : Code} (h1 : s.methodNamed? y = some m) (h2 : s.vm.method? m = some meth) (h3 : meth.code = some c) (h4 : c.code = bytes)
    (h5 : (c.maxLocals == mx && c.exceptionTable.isEmpty && decide (c.maxStack ≤ mostOperands) && decide (meth.sig.returnType = rt) && !meth.locks && decide (parseMethodDescriptor y.desc = some meth.sig)) = true) : (Jvm.Cond.code y bytes mx rt).before a s = true := by
  simp only [Bool.and_eq_true, beq_iff_eq, Bool.not_eq_true', decide_eq_true_eq] at h5
  obtain ⟨⟨⟨⟨⟨g1, g2⟩, g3⟩, g4⟩, g5⟩, g6⟩ := h5
  simp [Cond.before, Cond.holds, Cond.value, h1, h2, h3, h4, g1, g2, g3, g4, g5, g6]
def isCode : Jvm.Cond → Bool
  | .code _ _ _ _ => true
  | _ => false
theorem all_split {L : List Jvm.Cond} {P : Jvm.Cond → Bool} (h1 : L.all (fun c => isCode c || P c) = true) (h2 : ∀ c ∈ L.filter isCode, P c = true) : L.all P = true := by
  refine List.all_eq_true.mpr fun c hc => ?_
  have h := List.all_eq_true.mp h1 c hc
  rcases Bool.eq_false_or_eq_true (isCode c) with hi | hi
  · exact h2 c (List.mem_filter.mpr ⟨hc, hi⟩)
  · simpa [hi] using h
set_option maxRecDepth 65536 in
theorem w_c0 : (Jvm.Cond.code x code maxLocals ret).before args0 about1 = true := code_word (m := ⟨1, 1⟩) (meth := k1m1) (c := k1c1) (by decide +kernel) rfl rfl rfl (by decide +kernel)
set_option maxRecDepth 65536 in
theorem w_c1 : (Jvm.Cond.code ({ cls := "java/lang/Math", name := "min", desc := "(II)I" } : Jvm.MethodName) jdk_29_method_69_code (2 : Nat) (Option.some Jvm.ClassFile.FieldType.int)).before args0 about1 = true := code_word (m := ⟨2, 1⟩) (meth := k2m1) (c := k2c1) (by decide +kernel) rfl rfl rfl (by decide +kernel)
set_option maxRecDepth 65536 in
theorem w_c2 : (Jvm.Cond.code ({ cls := "com/example/millrace/millrace/engine/Arrivals", name := "<init>", desc := "(IZ)V" } : Jvm.MethodName) prog_25_method_1_code (3 : Nat) (Option.none : Option Jvm.ClassFile.FieldType)).before args0 about1 = true := code_word (m := ⟨3, 0⟩) (meth := k3m0) (c := k3c0) (by decide +kernel) rfl rfl rfl (by decide +kernel)
set_option maxRecDepth 65536 in
theorem w_c3 : (Jvm.Cond.code ({ cls := "java/lang/Object", name := "<init>", desc := "()V" } : Jvm.MethodName) object_method_1_code (1 : Nat) (Option.none : Option Jvm.ClassFile.FieldType)).before args0 about1 = true := code_word (m := ⟨0, 0⟩) (meth := k0m0) (c := k0c0) (by decide +kernel) rfl rfl rfl (by decide +kernel)
set_option maxRecDepth 65536 in
theorem w_c4 : (Jvm.Cond.code ({ cls := "com/example/millrace/millrace/engine/Arrivals", name := "with", desc := "(Z)Lcom/example/millrace/millrace/engine/Arrivals;" } : Jvm.MethodName) prog_25_method_4_code (2 : Nat) (Option.some (Jvm.ClassFile.FieldType.object "com/example/millrace/millrace/engine/Arrivals"))).before args0 about1 = true := code_word (m := ⟨3, 3⟩) (meth := k3m3) (c := k3c3) (by decide +kernel) rfl rfl rfl (by decide +kernel)
set_option maxRecDepth 65536 in
theorem w_c5 : (Jvm.Cond.code ({ cls := "com/example/millrace/millrace/engine/Arrivals", name := "count", desc := "()I" } : Jvm.MethodName) prog_25_method_2_code (1 : Nat) (Option.some Jvm.ClassFile.FieldType.int)).before args0 about1 = true := code_word (m := ⟨3, 1⟩) (meth := k3m1) (c := k3c1) (by decide +kernel) rfl rfl rfl (by decide +kernel)
set_option maxRecDepth 65536 in
theorem w_c6 : (Jvm.Cond.code ({ cls := "com/example/millrace/millrace/engine/Arrivals", name := "live", desc := "()Z" } : Jvm.MethodName) prog_25_method_3_code (1 : Nat) (Option.some Jvm.ClassFile.FieldType.boolean)).before args0 about1 = true := code_word (m := ⟨3, 2⟩) (meth := k3m2) (c := k3c2) (by decide +kernel) rfl rfl rfl (by decide +kernel)
def codes1 : List Jvm.Cond := [Jvm.Cond.code x code maxLocals ret, Jvm.Cond.code ({ cls := "java/lang/Math", name := "min", desc := "(II)I" } : Jvm.MethodName) jdk_29_method_69_code (2 : Nat) (Option.some Jvm.ClassFile.FieldType.int), Jvm.Cond.code ({ cls := "com/example/millrace/millrace/engine/Arrivals", name := "<init>", desc := "(IZ)V" } : Jvm.MethodName) prog_25_method_1_code (3 : Nat) (Option.none : Option Jvm.ClassFile.FieldType), Jvm.Cond.code ({ cls := "java/lang/Object", name := "<init>", desc := "()V" } : Jvm.MethodName) object_method_1_code (1 : Nat) (Option.none : Option Jvm.ClassFile.FieldType), Jvm.Cond.code ({ cls := "com/example/millrace/millrace/engine/Arrivals", name := "with", desc := "(Z)Lcom/example/millrace/millrace/engine/Arrivals;" } : Jvm.MethodName) prog_25_method_4_code (2 : Nat) (Option.some (Jvm.ClassFile.FieldType.object "com/example/millrace/millrace/engine/Arrivals")), Jvm.Cond.code ({ cls := "com/example/millrace/millrace/engine/Arrivals", name := "count", desc := "()I" } : Jvm.MethodName) prog_25_method_2_code (1 : Nat) (Option.some Jvm.ClassFile.FieldType.int), Jvm.Cond.code ({ cls := "com/example/millrace/millrace/engine/Arrivals", name := "live", desc := "()Z" } : Jvm.MethodName) prog_25_method_3_code (1 : Nat) (Option.some Jvm.ClassFile.FieldType.boolean)]
set_option maxRecDepth 65536 in
theorem codes_eq : words1.filter isCode = codes1 := rfl
theorem w_codes : ∀ c ∈ words1.filter isCode, c.before args0 about1 = true := by
  rw [codes_eq]
  intro c hc
  simp only [codes1, List.mem_cons, List.not_mem_nil, or_false] at hc
  rcases hc with rfl | rfl | rfl | rfl | rfl | rfl | rfl
  · exact w_c0
  · exact w_c1
  · exact w_c2
  · exact w_c3
  · exact w_c4
  · exact w_c5
  · exact w_c6
set_option maxRecDepth 65536 in
theorem w_t1 : (words1.take 24).all (fun c => isCode c || c.before args0 about1) = true := by decide +kernel
set_option maxRecDepth 65536 in
theorem w_t2 : (words1.drop 24).all (fun c => isCode c || c.before args0 about1) = true := by decide +kernel
theorem w_tables : (allAtoms (Jvm.Cond.code x code maxLocals ret :: tables_1)).before args0 about1 = true := by
  rw [allAtoms_all]
  show words1.all (fun c => c.before args0 about1) = true
  refine all_split ?_ w_codes
  rw [← List.take_append_drop 24 words1, List.all_append, w_t1, w_t2]
  rfl
set_option maxRecDepth 65536 in
theorem w_case : (Jvm.Cond.and given_1 narrow_1).before args0 about1 = true := by decide +kernel
theorem w_applies : (headSpec (Jvm.Cond.code x code maxLocals ret :: tables_1) room_1).applies x e0.platform about1 = true :=
  (Spec.applies_iff w_frames).mpr ⟨w_running, w_runnable, w_alone, w_named, w_hears, w_ripe, w_room, w_tables⟩
theorem atStart : AtStart classFile x code maxLocals ret World_1 tables_1 room_1 Calls_1 rest_1 Pre_1 launch0 p0 e0 about1 theMethod args0 below0 :=
  ⟨lists_1, trivial, launch0.admits_env _ _ _, launch0.least_env, fairChoices_fair.cas, fairChoices_fair.clock, w_frames, w_args, w_heap, w_applies, trivial, trivial, w_case⟩
end start1
theorem witness_1 : WitnessClaimed_1 := ⟨start1.p0, start1.e0, start1.about1, start1.theMethod, start1.args0, start1.below0, start1.atStart⟩
end Jvm.Pilot.@@N@@
