import JvmDerived
import JvmDerived.Pilot.@@N@@Statement
import JvmDerived.Pilot.@@N@@Code
set_option linter.unusedVariables false
set_option linter.unusedSimpArgs false
namespace Jvm.RoadKit
open Sem ClassFile Op Lib Jvm.Stand Jvm.Free Jvm.LawKit
section New
variable {p : Program} {l : Launch} {e : Env} {R : Room} {s : State} {m : MethodId} {args : Array Value} {below : List Frame} {meth : Method} {c : Code} {T : State} {locs : List Loc} {cells slots : Nat}
theorem retI (X : Stand p l e R s m args below meth c T locs cells slots) (hx : p.tables.exec = Jvm.exec) {pc : Nat} {Ls : Array Slot} {z : Int32} {rest : List Value} (hret : meth.sig.returnType = some .int) (hd : decode c.code pc = .ok (.ireturn, 1)) {fs : List Frame}
    (hl : ∀ (f : JFrame) (acts : List Action), f.method = m → f.locked = none → f.entered = [] → (doReturn e (T.setTop f) acts (some (.int z))).1 = T.setFrames fs) : Steps p.tables e below (T.setTop (mkF m pc Ls (.int z :: rest))) (T.setFrames fs) := by
  have hm' : T.vm.method? m = some meth := X.method'
  have hn : narrow .int (.int z) = .int z := rfl
  show Steps p.tables e below (T.setTop { method := m, pc := pc, locals := Ls, stack := _ :: rest, locked := none }) _
  jvm_step X.here [X.here.top, hx, hd, hm', hret, hn]
  first | (intro acts; rw [hl _ acts rfl rfl rfl]) | rw [hl _ _ rfl rfl rfl]
  exact Steps.refl _
end New
end Jvm.RoadKit
namespace Jvm.Pilot.@@N@@
open Jvm Jvm.ClassFile Sem Op Lib Jvm.Free Jvm.Stand Jvm.LawKit Jvm.RoadKit Bundle Jvm.Pilot.@@N@@.Jvm.D
theorem own_nb {P : Prop} [Decidable P] : nar .boolean (if P then (1 : Int32) else (0 : Int32)) = if P then (1 : Int32) else (0 : Int32) := by split <;> rfl
theorem own_nb2 {z : Int32} (h : z = 0 ∨ z = 1) : nar .boolean z = z := by rcases h with rfl | rfl <;> rfl
theorem own_01 {P : Prop} [Decidable P] : (if P then (1 : Int32) else (0 : Int32)) = 0 ∨ (if P then (1 : Int32) else (0 : Int32)) = 1 := by split <;> simp
theorem own_iv {a b : Int32} (h : a = b) : some (Value.int a) = some (Value.int b) := by rw [h]
theorem own_lv {a b : Int64} (h : a = b) : some (Value.long a) = some (Value.long b) := by rw [h]
theorem own_q (x : Int32) : ¬ (x &&& (3 : Int32)) < 0 ∧ (x &&& (3 : Int32)) < (4 : Int32) := by
  have h := c_mask x 3 2 (by decide) (by decide)
  have h3 : (0 : Int32).toInt = 0 := rfl
  have h4 : (4 : Int32).toInt = 4 := rfl
  rw [Int32.lt_iff_toInt_lt, Int32.lt_iff_toInt_lt]; omega
theorem own_el (u y0 y1 y2 y3 : Int32) (hu : ¬ u < 0 ∧ u < (4 : Int32)) : ∃ z, [(Value.int y0), (.int y1), (.int y2), (.int y3)].getD u.toNatClampNeg (.int (0 : Int32)) = .int z := by
  have h := nat_of hu.1
  have h4 : (4 : Int32).toInt = 4 := rfl
  have h5 := hu.2
  rw [Int32.lt_iff_toInt_lt] at h5
  have h6 : u.toNatClampNeg = 0 ∨ u.toNatClampNeg = 1 ∨ u.toNatClampNeg = 2 ∨ u.toNatClampNeg = 3 := by omega
  rcases h6 with h6 | h6 | h6 | h6 <;> rw [h6] <;> exact ⟨_, rfl⟩
theorem own_d2_0 : decode prog_66_method_1_code 0 = .ok (.aload_n 0, 1) := by decide +kernel
theorem own_d2_1 : decode prog_66_method_1_code 1 = .ok (.invokespecial 1, 3) := by decide +kernel
theorem own_d2_4 : decode prog_66_method_1_code 4 = .ok (.aload_n 0, 1) := by decide +kernel
theorem own_d2_5 : decode prog_66_method_1_code 5 = .ok (.lload_n 1, 1) := by decide +kernel
theorem own_d2_6 : decode prog_66_method_1_code 6 = .ok (.putfield 7, 3) := by decide +kernel
theorem own_d2_9 : decode prog_66_method_1_code 9 = .ok (.aload_n 0, 1) := by decide +kernel
theorem own_d2_10 : decode prog_66_method_1_code 10 = .ok (.aload_n 3, 1) := by decide +kernel
theorem own_d2_11 : decode prog_66_method_1_code 11 = .ok (.putfield 13, 3) := by decide +kernel
theorem own_d2_14 : decode prog_66_method_1_code 14 = .ok (.aload_n 0, 1) := by decide +kernel
theorem own_d2_15 : decode prog_66_method_1_code 15 = .ok (.aload 4, 2) := by decide +kernel
theorem own_d2_17 : decode prog_66_method_1_code 17 = .ok (.putfield 17, 3) := by decide +kernel
theorem own_d2_20 : decode prog_66_method_1_code 20 = .ok (.return_, 1) := by decide +kernel
theorem own_pn0 : plainName "com/example/antigonish/antigonish/TokenSum" = true := by first | (simp [plainName, overriddenIn]; done) | decide +kernel
theorem own_ef2 (m : MethodId) (x0 : Addr) (x1 : Int64) (x2 : Addr) (x3 : Addr) : entryFrame m #[(.ref x0), (.long x1), (.ref x2), (.ref x3)] 5 = mkF m 0 #[.val (.ref x0), .val (.long x1), .second, .val (.ref x2), .val (.ref x3)] [] := by first | (simp [entryFrame, mkF, argsToLocals, Value.category]; done) | rfl
def own_Q_own_init (Z : State) (a : Addr) (n1 : Int64) (pl : Addr) (wg : Addr) (h0 : Heap) (n0 : Nat) (v : Option Value) (h : Heap) (L : List Loc) : Prop := v = none ∧ Fr n0 L ∧ Keep h0 h [a] ∧ Exa Z h a "com/example/antigonish/antigonish/TokenSum" ∧ Fld Z h a "com/example/antigonish/antigonish/TokenSum" "_constant" "J" (.long n1) ∧ Fld Z h a "com/example/antigonish/antigonish/TokenSum" "_places" "[I" (.ref pl) ∧ Fld Z h a "com/example/antigonish/antigonish/TokenSum" "_weights" "[J" (.ref wg)
set_option maxRecDepth 65536 in
set_option maxHeartbeats 40000000 in
theorem own_init (l : Launch) (Z : State) (a0 : Array Value) (hw : ∀ d ∈ tables_1, d.before a0 Z = true) (ws : List Jvm.Cond) (a : Addr) (n1 : Int64) (pl : Addr) (wg : Addr) (h0 : Heap) (n0 : Nat) (Z0 : n0 ≤ h0.size) (E : Exa Z h0 a "com/example/antigonish/antigonish/TokenSum") (Fk : Fld Z h0 a "com/example/antigonish/antigonish/TokenSum" "_constant" "J" (.long (0 : Int64))) (Fp : Fld Z h0 a "com/example/antigonish/antigonish/TokenSum" "_places" "[I" .null) (Fw : Fld Z h0 a "com/example/antigonish/antigonish/TokenSum" "_weights" "[J" .null) (g : n0 ≤ a) :
    MetFree l (⟨"com/example/antigonish/antigonish/TokenSum", "<init>", "(J[I[J)V"⟩ : MethodName) (head1 (Jvm.Cond.code (⟨"com/example/antigonish/antigonish/TokenSum", "<init>", "(J[I[J)V"⟩ : MethodName) prog_66_method_1_code 5 none :: ws) ({ frames := 1, cells := 0, slots := 0, locals := 12 } : Room)) (fun as_ U => as_ = #[(.ref a), (.long n1), (.ref pl), (.ref wg)] ∧ Z.Warmed39 U.vm ∧ U.heap = h0) (fun _ _ _ _ _ => True) (fun _ U o U' => ∃ v L, o = .returned v ∧ own_Q_own_init Z a n1 pl wg h0 n0 v U'.heap L ∧ FrameEnd U o U' L ({ frames := 1, cells := 0, slots := 0, locals := 12 } : Room).cells ({ frames := 1, cells := 0, slots := 0, locals := 12 } : Room).slots) := by
  refine MetFree.of_bodySF (plainFor_of_name own_pn0) hisR ?_
  intro p e s m args below meth c s₁ Bd hml0 hP hK
  obtain ⟨rfl, hZ, hh⟩ := hP
  have hx := Bd.exec
  have hby := Bd.bytes
  have hml : c.maxLocals = 5 := hml0
  have hown : s.vm.findClass "com/example/antigonish/antigonish/TokenSum" = some m.cls := findClass_of_methodNamed Bd.named
  have hnm := (name_of_methodNamed Bd.named Bd.method).1
  have X0 : Stand p l e ({ frames := 1, cells := 0, slots := 0, locals := 12 } : Room) s m #[(.ref a), (.long n1), (.ref pl), (.ref wg)] below meth c s₁ [] 0 0 := Stand.of_body Bd
  have e0 : s₁.heap = h0 := by rw [← hh, Bd.state]; rfl
  have N0 := Fr.nil n0
  have pre0 : ∀ t, Steps p.tables e below (s₁.setTop (mkF m 0 #[.val (.ref a), .val (.long n1), .second, .val (.ref pl), .val (.ref wg)] [])) t → Steps p.tables e below (s₁.setTop (entryFrame m #[(.ref a), (.long n1), (.ref pl), (.ref wg)] 5)) t := fun t k => castTop (own_ef2 m a n1 pl wg) k
  have KP := Keep.refl h0 ([a] : List Addr)
  obtain ⟨T1, X1, e1, st1⟩ := initO X0 hx hZ hown (hw _ (List.mem_of_getElem? (i := 11) rfl)) (hw _ (List.mem_of_getElem? (i := 12) rfl)) (hw _ (List.mem_of_getElem? (i := 13) rfl)) e0 (g := (mkF m 1 #[.val (.ref a), .val (.long n1), .second, .val (.ref pl), .val (.ref wg)] [(.ref a)])) rfl (by rw [hml]; rfl) rfl (hb hby own_d2_1) (by decide) (W := 0) (by show 2 * 0 + _ ≤ _; exact Nat.le_of_eq rfl) (by decide)
  obtain ⟨T2, h2, X2, e2, W2, st2⟩ := putF X1 hx hZ hown (host := "") (Or.inl (hw _ (List.mem_of_getElem? (i := 14) rfl))) Via.refl e1 Fk E (Or.inr ⟨(hw _ (List.mem_of_getElem? (i := 15) rfl)), rfl, hnm⟩) (hw _ (List.mem_of_getElem? (i := 5) rfl)) (ty := .long) (by decide) rfl rfl (g := (mkF m 6 #[.val (.ref a), .val (.long n1), .second, .val (.ref pl), .val (.ref wg)] [(.long n1), (.ref a)])) rfl rfl (hb hby own_d2_6)
  have E := E.wr W2
  have Fp := Fp.other W2 (Or.inr (slot_ne (Or.inr (hw _ (List.mem_of_getElem? (i := 17) rfl))) (Or.inr (hw _ (List.mem_of_getElem? (i := 15) rfl))) (by decide) (t := (.array .int)) (t' := .long) (by decide) (by decide)))
  have Fw := Fw.other W2 (Or.inr (slot_ne (Or.inr (hw _ (List.mem_of_getElem? (i := 19) rfl))) (Or.inr (hw _ (List.mem_of_getElem? (i := 15) rfl))) (by decide) (t := (.array .long)) (t' := .long) (by decide) (by decide)))
  have Z3 : n0 ≤ h2.size := Nat.le_trans Z0 (Keep.of_wr W2).1
  have KP := KP.wr W2 (Or.inl (List.mem_of_getElem? (i := 0) rfl))
  have Fk := Fk.same W2
  have N2 := Fr.snoc X2 N0 g
  obtain ⟨T4, h4, X4, e4, W4, st4⟩ := putF X2 hx hZ hown (host := "") (Or.inl (hw _ (List.mem_of_getElem? (i := 16) rfl))) Via.refl e2 Fp E (Or.inr ⟨(hw _ (List.mem_of_getElem? (i := 17) rfl)), rfl, hnm⟩) (hw _ (List.mem_of_getElem? (i := 5) rfl)) (ty := (.array .int)) (by decide) rfl rfl (g := (mkF m 11 #[.val (.ref a), .val (.long n1), .second, .val (.ref pl), .val (.ref wg)] [(.ref pl), (.ref a)])) rfl rfl (hb hby own_d2_11)
  have E := E.wr W4
  have Fk := Fk.other W4 (Or.inr (slot_ne (Or.inr (hw _ (List.mem_of_getElem? (i := 15) rfl))) (Or.inr (hw _ (List.mem_of_getElem? (i := 17) rfl))) (by decide) (t := .long) (t' := (.array .int)) (by decide) (by decide)))
  have Fw := Fw.other W4 (Or.inr (slot_ne (Or.inr (hw _ (List.mem_of_getElem? (i := 19) rfl))) (Or.inr (hw _ (List.mem_of_getElem? (i := 17) rfl))) (by decide) (t := (.array .long)) (t' := (.array .int)) (by decide) (by decide)))
  have Z5 : n0 ≤ h4.size := Nat.le_trans Z3 (Keep.of_wr W4).1
  have KP := KP.wr W4 (Or.inl (List.mem_of_getElem? (i := 0) rfl))
  have Fp := Fp.same W4
  have N4 := Fr.snoc X4 N2 g
  obtain ⟨T6, h6, X6, e6, W6, st6⟩ := putF X4 hx hZ hown (host := "") (Or.inl (hw _ (List.mem_of_getElem? (i := 18) rfl))) Via.refl e4 Fw E (Or.inr ⟨(hw _ (List.mem_of_getElem? (i := 19) rfl)), rfl, hnm⟩) (hw _ (List.mem_of_getElem? (i := 5) rfl)) (ty := (.array .long)) (by decide) rfl rfl (g := (mkF m 17 #[.val (.ref a), .val (.long n1), .second, .val (.ref pl), .val (.ref wg)] [(.ref wg), (.ref a)])) rfl rfl (hb hby own_d2_17)
  have E := E.wr W6
  have Fk := Fk.other W6 (Or.inr (slot_ne (Or.inr (hw _ (List.mem_of_getElem? (i := 15) rfl))) (Or.inr (hw _ (List.mem_of_getElem? (i := 19) rfl))) (by decide) (t := .long) (t' := (.array .long)) (by decide) (by decide)))
  have Fp := Fp.other W6 (Or.inr (slot_ne (Or.inr (hw _ (List.mem_of_getElem? (i := 17) rfl))) (Or.inr (hw _ (List.mem_of_getElem? (i := 19) rfl))) (by decide) (t := (.array .int)) (t' := (.array .long)) (by decide) (by decide)))
  have Z7 : n0 ≤ h6.size := Nat.le_trans Z5 (Keep.of_wr W6).1
  have KP := KP.wr W6 (Or.inl (List.mem_of_getElem? (i := 0) rfl))
  have Fw := Fw.same W6
  have N6 := Fr.snoc X6 N4 g
  obtain ⟨fs, hr, hrun, hended, hW, hsame⟩ := X6.leave (v := none) (fun _ => rfl)
  refine ⟨_, _, pre0 _ ?_, hrun, hended, _, _, rfl, ?_, ⟨_, rfl⟩, hW, hsame.mono (by decide) (by decide)⟩
  · show Steps p.tables e below (s₁.setTop (mkF m 0 #[.val (.ref a), .val (.long n1), .second, .val (.ref pl), .val (.ref wg)] [])) _
    refine XS.aloadN X0.here hx rfl (hb hby own_d2_0) rfl rfl ?_
    show Steps p.tables e below (s₁.setTop (mkF m 1 #[.val (.ref a), .val (.long n1), .second, .val (.ref pl), .val (.ref wg)] [(.ref a)])) _
    refine st1 _ ?_
    show Steps p.tables e below (T1.setTop (mkF m 4 #[.val (.ref a), .val (.long n1), .second, .val (.ref pl), .val (.ref wg)] [])) _
    refine XS.aloadN X1.here hx rfl (hb hby own_d2_4) rfl rfl ?_
    show Steps p.tables e below (T1.setTop (mkF m 5 #[.val (.ref a), .val (.long n1), .second, .val (.ref pl), .val (.ref wg)] [(.ref a)])) _
    refine XS.lloadN X1.here hx rfl (hb hby own_d2_5) rfl ?_
    show Steps p.tables e below (T1.setTop (mkF m 6 #[.val (.ref a), .val (.long n1), .second, .val (.ref pl), .val (.ref wg)] [(.long n1), (.ref a)])) _
    refine st2 _ ?_
    show Steps p.tables e below (T2.setTop (mkF m 9 #[.val (.ref a), .val (.long n1), .second, .val (.ref pl), .val (.ref wg)] [])) _
    refine XS.aloadN X2.here hx rfl (hb hby own_d2_9) rfl rfl ?_
    show Steps p.tables e below (T2.setTop (mkF m 10 #[.val (.ref a), .val (.long n1), .second, .val (.ref pl), .val (.ref wg)] [(.ref a)])) _
    refine XS.aloadN X2.here hx rfl (hb hby own_d2_10) rfl rfl ?_
    show Steps p.tables e below (T2.setTop (mkF m 11 #[.val (.ref a), .val (.long n1), .second, .val (.ref pl), .val (.ref wg)] [(.ref pl), (.ref a)])) _
    refine st4 _ ?_
    show Steps p.tables e below (T4.setTop (mkF m 14 #[.val (.ref a), .val (.long n1), .second, .val (.ref pl), .val (.ref wg)] [])) _
    refine XS.aloadN X4.here hx rfl (hb hby own_d2_14) rfl rfl ?_
    show Steps p.tables e below (T4.setTop (mkF m 15 #[.val (.ref a), .val (.long n1), .second, .val (.ref pl), .val (.ref wg)] [(.ref a)])) _
    refine XS.aload X4.here hx rfl (hb hby own_d2_15) rfl rfl ?_
    show Steps p.tables e below (T4.setTop (mkF m 17 #[.val (.ref a), .val (.long n1), .second, .val (.ref pl), .val (.ref wg)] [(.ref wg), (.ref a)])) _
    refine st6 _ ?_
    show Steps p.tables e below (T6.setTop (mkF m 20 #[.val (.ref a), .val (.long n1), .second, .val (.ref pl), .val (.ref wg)] [])) _
    exact X6.returnOut hx Bd.returns (hb hby own_d2_20) hr
  · show own_Q_own_init Z a n1 pl wg h0 n0 _ T6.heap _
    rw [e6]
    exact ⟨rfl, N6, KP, E, Fk, Fp, Fw⟩
theorem own_pd0 : parseMethodDescriptor "(J[I[J)V" = some ⟨[.long, (.array .int), (.array .long)], none⟩ := by decide +kernel
theorem own_d1_0 : decode prog_66_method_3_code 0 = .ok (.new 8, 3) := by decide +kernel
theorem own_d1_3 : decode prog_66_method_3_code 3 = .ok (.dup, 1) := by decide +kernel
theorem own_d1_4 : decode prog_66_method_3_code 4 = .ok (.lconst 0, 1) := by decide +kernel
theorem own_d1_5 : decode prog_66_method_3_code 5 = .ok (.iconst 1, 1) := by decide +kernel
theorem own_d1_6 : decode prog_66_method_3_code 6 = .ok (.newarray .int, 2) := by decide +kernel
theorem own_d1_8 : decode prog_66_method_3_code 8 = .ok (.dup, 1) := by decide +kernel
theorem own_d1_9 : decode prog_66_method_3_code 9 = .ok (.iconst 0, 1) := by decide +kernel
theorem own_d1_10 : decode prog_66_method_3_code 10 = .ok (.iload_n 0, 1) := by decide +kernel
theorem own_d1_11 : decode prog_66_method_3_code 11 = .ok (.iastore, 1) := by decide +kernel
theorem own_d1_12 : decode prog_66_method_3_code 12 = .ok (.iconst 1, 1) := by decide +kernel
theorem own_d1_13 : decode prog_66_method_3_code 13 = .ok (.newarray .long, 2) := by decide +kernel
theorem own_d1_15 : decode prog_66_method_3_code 15 = .ok (.dup, 1) := by decide +kernel
theorem own_d1_16 : decode prog_66_method_3_code 16 = .ok (.iconst 0, 1) := by decide +kernel
theorem own_d1_17 : decode prog_66_method_3_code 17 = .ok (.lconst 1, 1) := by decide +kernel
theorem own_d1_18 : decode prog_66_method_3_code 18 = .ok (.lastore, 1) := by decide +kernel
theorem own_d1_19 : decode prog_66_method_3_code 19 = .ok (.invokespecial 40, 3) := by decide +kernel
theorem own_d1_22 : decode prog_66_method_3_code 22 = .ok (.areturn, 1) := by decide +kernel
theorem own_ef1 (m : MethodId) (x0 : Int32) : entryFrame m #[(.int x0)] 1 = mkF m 0 #[.val (.int x0)] [] := by first | (simp [entryFrame, mkF, argsToLocals, Value.category]; done) | rfl
def own_Q_own_tok (Z : State) (u : Int32) (h0 : Heap) (n0 : Nat) (v : Option Value) (h : Heap) (L : List Loc) : Prop := ∃ (b pl wg : Addr) (kp kw : ClassId), v = some (.ref b) ∧ Fr n0 L ∧ Keep h0 h [] ∧ Exa Z h b "com/example/antigonish/antigonish/TokenSum" ∧ Fld Z h b "com/example/antigonish/antigonish/TokenSum" "_constant" "J" (.long (0 : Int64)) ∧ Fld Z h b "com/example/antigonish/antigonish/TokenSum" "_places" "[I" (.ref pl) ∧ Fld Z h b "com/example/antigonish/antigonish/TokenSum" "_weights" "[J" (.ref wg) ∧ Arv Z h pl kp .int (1 : Int32) [(.int u)] (.int (0 : Int32)) ∧ Arv Z h wg kw .long (1 : Int32) [(.long (1 : Int64))] (.long (0 : Int64)) ∧ Exa Z h pl "[I"
set_option maxRecDepth 65536 in
set_option maxHeartbeats 40000000 in
theorem own_tok (l : Launch) (Z : State) (a0 : Array Value) (hw : ∀ d ∈ tables_1, d.before a0 Z = true) (ws : List Jvm.Cond) (u : Int32) (h0 : Heap) (n0 : Nat) (Z0 : n0 ≤ h0.size) :
    MetFree l (⟨"com/example/antigonish/antigonish/TokenSum", "tokens", "(I)Lcom/example/antigonish/antigonish/TokenSum;"⟩ : MethodName) (head1 (Jvm.Cond.code (⟨"com/example/antigonish/antigonish/TokenSum", "tokens", "(I)Lcom/example/antigonish/antigonish/TokenSum;"⟩ : MethodName) prog_66_method_3_code 1 (some (.object "com/example/antigonish/antigonish/TokenSum")) :: ws) ({ frames := 2, cells := 3, slots := 5, locals := 29 } : Room)) (fun as_ U => as_ = #[(.int u)] ∧ Z.Warmed39 U.vm ∧ U.heap = h0) (fun _ _ _ _ _ => True) (fun _ U o U' => ∃ v L, o = .returned v ∧ own_Q_own_tok Z u h0 n0 v U'.heap L ∧ FrameEnd U o U' L ({ frames := 2, cells := 3, slots := 5, locals := 29 } : Room).cells ({ frames := 2, cells := 3, slots := 5, locals := 29 } : Room).slots) := by
  refine MetFree.of_bodySF (plainFor_of_name own_pn0) hisR ?_
  intro p e s m args below meth c s₁ Bd hml0 hP hK
  obtain ⟨rfl, hZ, hh⟩ := hP
  have hx := Bd.exec
  have hby := Bd.bytes
  have hml : c.maxLocals = 1 := hml0
  have hown : s.vm.findClass "com/example/antigonish/antigonish/TokenSum" = some m.cls := findClass_of_methodNamed Bd.named
  have hnm := (name_of_methodNamed Bd.named Bd.method).1
  have X0 : Stand p l e ({ frames := 2, cells := 3, slots := 5, locals := 29 } : Room) s m #[(.int u)] below meth c s₁ [] 0 0 := Stand.of_body Bd
  have e0 : s₁.heap = h0 := by rw [← hh, Bd.state]; rfl
  have N0 := Fr.nil n0
  have pre0 : ∀ t, Steps p.tables e below (s₁.setTop (mkF m 0 #[.val (.int u)] [])) t → Steps p.tables e below (s₁.setTop (entryFrame m #[(.int u)] 1)) t := fun t k => castTop (own_ef1 m u) k
  have KP := Keep.refl h0 ([] : List Addr)
  obtain ⟨T1, h1, X1, e1, E1, A1, D1, -, st1⟩ := newO X0 hx hZ hown (hw _ (List.mem_of_getElem? (i := 4) rfl)) (hw _ (List.mem_of_getElem? (i := 5) rfl)) (hw _ (List.mem_of_getElem? (i := 2) rfl)) e0 (g := (mkF m 0 #[.val (.int u)] [])) rfl (hb hby own_d1_0) (by decide) (by decide)
  obtain ⟨b1, g1⟩ : ∃ z, z = h0.size := ⟨_, rfl⟩
  rw [← g1] at A1 D1 st1
  have g_b1 : n0 ≤ b1 := Nat.le_trans Z0 (Nat.le_of_eq g1.symm)
  have sz_b1 : h0.size ≤ b1 := Nat.le_trans KP.1 (Nat.le_of_eq g1.symm)
  have Z2 : n0 ≤ h1.size := Nat.le_trans Z0 E1.1
  have KP := KP.ext E1
  have F__constant_b1 : Fld Z h1 b1 "com/example/antigonish/antigonish/TokenSum" "_constant" "J" (.long (0 : Int64)) := D1 (Or.inr (hw _ (List.mem_of_getElem? (i := 15) rfl))) (ty := .long) (by decide)
  have F__places_b1 : Fld Z h1 b1 "com/example/antigonish/antigonish/TokenSum" "_places" "[I" .null := D1 (Or.inr (hw _ (List.mem_of_getElem? (i := 17) rfl))) (ty := (.array .int)) (by decide)
  have F__weights_b1 : Fld Z h1 b1 "com/example/antigonish/antigonish/TokenSum" "_weights" "[J" .null := D1 (Or.inr (hw _ (List.mem_of_getElem? (i := 19) rfl))) (ty := (.array .long)) (by decide)
  have E_b1 := A1
  obtain ⟨T3, h3, k3, X3, e3, E3, A3, Q3, st3⟩ := newPE X1 hx hZ (hw _ (List.mem_of_getElem? (i := 6) rfl)) e1 (g := (mkF m 6 #[.val (.int u)] [(.int (1 : Int32)), (.long (0 : Int64)), (.ref b1), (.ref b1)])) rfl (hb hby own_d1_6) rfl (by decide) (cap := 1) (by decide) (by decide) (by decide) (by decide) (ad := "[I") rfl
  obtain ⟨b3, g3⟩ : ∃ z, z = h1.size := ⟨_, rfl⟩
  rw [← g3] at A3 st3 Q3
  have g_b3 : n0 ≤ b3 := Nat.le_trans Z2 (Nat.le_of_eq g3.symm)
  have sz_b3 : h0.size ≤ b3 := Nat.le_trans KP.1 (Nat.le_of_eq g3.symm)
  have ne_b1_b3 : b1 ≠ b3 := Nat.ne_of_lt (Nat.lt_of_lt_of_le F__constant_b1.lt (Nat.le_of_eq g3.symm))
  have F__constant_b1 := F__constant_b1.ext E3
  have F__places_b1 := F__places_b1.ext E3
  have F__weights_b1 := F__weights_b1.ext E3
  have E_b1 := E_b1.ext E3
  have Z4 : n0 ≤ h3.size := Nat.le_trans Z2 E3.1
  have KP := KP.ext E3
  have V_b3 : Arv Z h3 b3 k3 .int (1 : Int32) [(.int (0 : Int32))] (.int (0 : Int32)) := (Arv.new A3 (by decide)).pad (pad_rep [] (.int (0 : Int32)) 1)
  have E_b3 := Q3
  obtain ⟨cl5, Ar5, q5, S5, M5, H5, G5⟩ := id V_b3
  have hin5 : ¬ ((0 : Int32) < 0 ∨ cl5.slots.size ≤ ((0 : Int32)).toNatClampNeg) := inb_of S5 ⟨by decide, by decide⟩
  obtain ⟨T6, h6, X6, e6, W6, st6⟩ := stI X3 hx hZ e3 Ar5 (j := (0 : Int32)) hin5 (g := (mkF m 11 #[.val (.int u)] [(.int u), (.int (0 : Int32)), (.ref b3), (.ref b3), (.long (0 : Int64)), (.ref b1), (.ref b1)])) rfl rfl (hb hby own_d1_11)
  have F__constant_b1 := F__constant_b1.other W6 (Or.inl ne_b1_b3)
  have F__places_b1 := F__places_b1.other W6 (Or.inl ne_b1_b3)
  have F__weights_b1 := F__weights_b1.other W6 (Or.inl ne_b1_b3)
  have E_b1 := E_b1.wr W6
  have E_b3 := E_b3.wr W6
  have Z7 : n0 ≤ h6.size := Nat.le_trans Z4 (Keep.of_wr W6).1
  have KP := KP.wr W6 (Or.inr sz_b3)
  have V_b3 := Arv.set Ar5 q5 S5 M5 H5 G5 rfl W6 0 rfl (Nat.le_of_ble_eq_true rfl)
  have V_b3 : Arv Z h6 b3 k3 .int (1 : Int32) [(.int u)] (.int (0 : Int32)) := V_b3
  have N6 := Fr.snoc X6 N0 g_b3
  obtain ⟨T8, h8, k8, X8, e8, E8, A8, Q8, st8⟩ := newPE X6 hx hZ (hw _ (List.mem_of_getElem? (i := 7) rfl)) e6 (g := (mkF m 13 #[.val (.int u)] [(.int (1 : Int32)), (.ref b3), (.long (0 : Int64)), (.ref b1), (.ref b1)])) rfl (hb hby own_d1_13) rfl (by decide) (cap := 1) (by decide) (by decide) (by decide) (by decide) (ad := "[J") rfl
  obtain ⟨b8, g8⟩ : ∃ z, z = h6.size := ⟨_, rfl⟩
  rw [← g8] at A8 st8 Q8
  have g_b8 : n0 ≤ b8 := Nat.le_trans Z7 (Nat.le_of_eq g8.symm)
  have sz_b8 : h0.size ≤ b8 := Nat.le_trans KP.1 (Nat.le_of_eq g8.symm)
  have ne_b1_b8 : b1 ≠ b8 := Nat.ne_of_lt (Nat.lt_of_lt_of_le F__constant_b1.lt (Nat.le_of_eq g8.symm))
  have ne_b3_b8 : b3 ≠ b8 := Nat.ne_of_lt (Nat.lt_of_lt_of_le V_b3.lt (Nat.le_of_eq g8.symm))
  have F__constant_b1 := F__constant_b1.ext E8
  have F__places_b1 := F__places_b1.ext E8
  have F__weights_b1 := F__weights_b1.ext E8
  have E_b1 := E_b1.ext E8
  have V_b3 := V_b3.ext E8
  have E_b3 := E_b3.ext E8
  have Z9 : n0 ≤ h8.size := Nat.le_trans Z7 E8.1
  have KP := KP.ext E8
  have V_b8 : Arv Z h8 b8 k8 .long (1 : Int32) [(.long (0 : Int64))] (.long (0 : Int64)) := (Arv.new A8 (by decide)).pad (pad_rep [] (.long (0 : Int64)) 1)
  have E_b8 := Q8
  obtain ⟨cl10, Ar10, q10, S10, M10, H10, G10⟩ := id V_b8
  have hin10 : ¬ ((0 : Int32) < 0 ∨ cl10.slots.size ≤ ((0 : Int32)).toNatClampNeg) := inb_of S10 ⟨by decide, by decide⟩
  obtain ⟨T11, h11, X11, e11, W11, st11⟩ := stJ X8 hx hZ e8 Ar10 (j := (0 : Int32)) hin10 (g := (mkF m 18 #[.val (.int u)] [(.long (1 : Int64)), (.int (0 : Int32)), (.ref b8), (.ref b8), (.ref b3), (.long (0 : Int64)), (.ref b1), (.ref b1)])) rfl rfl (hb hby own_d1_18)
  have F__constant_b1 := F__constant_b1.other W11 (Or.inl ne_b1_b8)
  have F__places_b1 := F__places_b1.other W11 (Or.inl ne_b1_b8)
  have F__weights_b1 := F__weights_b1.other W11 (Or.inl ne_b1_b8)
  have E_b1 := E_b1.wr W11
  have V_b3 := V_b3.other W11 ne_b3_b8
  have E_b3 := E_b3.wr W11
  have E_b8 := E_b8.wr W11
  have Z12 : n0 ≤ h11.size := Nat.le_trans Z9 (Keep.of_wr W11).1
  have KP := KP.wr W11 (Or.inr sz_b8)
  have V_b8 := Arv.set Ar10 q10 S10 M10 H10 G10 rfl W11 0 rfl (Nat.le_of_ble_eq_true rfl)
  have V_b8 : Arv Z h11 b8 k8 .long (1 : Int32) [(.long (1 : Int64))] (.long (0 : Int64)) := V_b8
  have N11 := Fr.snoc X11 N6 g_b8
  obtain ⟨_, _, ⟨T13, L13, k13, n13⟩, -, X13, ⟨Lc13, hQ13, l13, y13, z13⟩, st13⟩ := X11.specialBack hx (y := (⟨"com/example/antigonish/antigonish/TokenSum", "<init>", "(J[I[J)V"⟩ : MethodName)) rfl hown (mvT hZ (hw _ (List.mem_of_getElem? (i := 8) rfl))) (mvT hZ (hw _ (List.mem_of_getElem? (i := 9) rfl))) (mvT hZ (hw _ (List.mem_of_getElem? (i := 10) rfl))) (by decide) (backOf (W := 1) (own_init l Z a0 hw [] b1 (0 : Int64) b3 b8  h11 n0 Z12 E_b1 F__constant_b1 F__places_b1 F__weights_b1 g_b1) hZ (hw _ (List.mem_of_getElem? (i := 10) rfl)) (hw _ (List.mem_of_getElem? (i := 2) rfl)) (by decide) (by decide)) (g := (mkF m 19 #[.val (.int u)] [(.ref b8), (.ref b3), (.long (0 : Int64)), (.ref b1), (.ref b1)])) rfl (by rw [hml]; rfl) (Steps.refl _) (a := b1) (argsL := [(.long (0 : Int64)), (.ref b3), (.ref b8)]) (rest := [(.ref b1)]) (lenOf own_pd0 rfl) rfl (by show 2 * 0 + _ ≤ _; exact Nat.le_of_eq rfl) (hb hby own_d1_19) (fun _ _ => ⟨rfl, e11, (by decide : 3 + 0 ≤ _), (by decide : 5 + 0 ≤ _)⟩)
  dsimp only [Pt.U, Pt.locs, Pt.cells, Pt.slots] at X13 l13 y13 z13 st13 hQ13
  subst l13 y13 z13
  obtain ⟨rfl, N13q, K13, Ee13, Fk13, Fp13, Fw13⟩ := hQ13
  have N13 := Fr.app N11 N13q
  have E_b1 := E_b1.keep K13
  have V_b3 := V_b3.keep K13 (ninS (Ne.symm ne_b1_b3) nin0)
  have E_b3 := E_b3.keep K13
  have V_b8 := V_b8.keep K13 (ninS (Ne.symm ne_b1_b8) nin0)
  have E_b8 := E_b8.keep K13
  have Z14 := Nat.le_trans Z12 K13.1
  have KP := KP.trans K13 (allS (Or.inr sz_b1) all0)
  obtain ⟨fs, hr, hrun, hended, hW, hsame⟩ := X13.leave (v := some (.ref b1)) (fun h => by rw [Bd.returns] at h; cases h)
  refine ⟨_, _, pre0 _ ?_, hrun, hended, _, _, rfl, ?_, ⟨_, rfl⟩, hW, hsame.mono (by decide) (by decide)⟩
  · show Steps p.tables e below (s₁.setTop (mkF m 0 #[.val (.int u)] [])) _
    refine st1 _ ?_
    show Steps p.tables e below (T1.setTop (mkF m 3 #[.val (.int u)] [(.ref b1)])) _
    refine XS.dup X1.here hx rfl (hb hby own_d1_3) rfl rfl ?_
    show Steps p.tables e below (T1.setTop (mkF m 4 #[.val (.int u)] [(.ref b1), (.ref b1)])) _
    refine XS.lconst X1.here hx rfl (hb hby own_d1_4) ?_
    show Steps p.tables e below (T1.setTop (mkF m 5 #[.val (.int u)] [(.long (0 : Int64)), (.ref b1), (.ref b1)])) _
    refine XS.iconst X1.here hx rfl (hb hby own_d1_5) ?_
    show Steps p.tables e below (T1.setTop (mkF m 6 #[.val (.int u)] [(.int (1 : Int32)), (.long (0 : Int64)), (.ref b1), (.ref b1)])) _
    refine st3 _ ?_
    show Steps p.tables e below (T3.setTop (mkF m 8 #[.val (.int u)] [(.ref b3), (.long (0 : Int64)), (.ref b1), (.ref b1)])) _
    refine XS.dup X3.here hx rfl (hb hby own_d1_8) rfl rfl ?_
    show Steps p.tables e below (T3.setTop (mkF m 9 #[.val (.int u)] [(.ref b3), (.ref b3), (.long (0 : Int64)), (.ref b1), (.ref b1)])) _
    refine XS.iconst X3.here hx rfl (hb hby own_d1_9) ?_
    show Steps p.tables e below (T3.setTop (mkF m 10 #[.val (.int u)] [(.int (0 : Int32)), (.ref b3), (.ref b3), (.long (0 : Int64)), (.ref b1), (.ref b1)])) _
    refine XS.iloadN X3.here hx rfl (hb hby own_d1_10) rfl ?_
    show Steps p.tables e below (T3.setTop (mkF m 11 #[.val (.int u)] [(.int u), (.int (0 : Int32)), (.ref b3), (.ref b3), (.long (0 : Int64)), (.ref b1), (.ref b1)])) _
    refine st6 _ ?_
    show Steps p.tables e below (T6.setTop (mkF m 12 #[.val (.int u)] [(.ref b3), (.long (0 : Int64)), (.ref b1), (.ref b1)])) _
    refine XS.iconst X6.here hx rfl (hb hby own_d1_12) ?_
    show Steps p.tables e below (T6.setTop (mkF m 13 #[.val (.int u)] [(.int (1 : Int32)), (.ref b3), (.long (0 : Int64)), (.ref b1), (.ref b1)])) _
    refine st8 _ ?_
    show Steps p.tables e below (T8.setTop (mkF m 15 #[.val (.int u)] [(.ref b8), (.ref b3), (.long (0 : Int64)), (.ref b1), (.ref b1)])) _
    refine XS.dup X8.here hx rfl (hb hby own_d1_15) rfl rfl ?_
    show Steps p.tables e below (T8.setTop (mkF m 16 #[.val (.int u)] [(.ref b8), (.ref b8), (.ref b3), (.long (0 : Int64)), (.ref b1), (.ref b1)])) _
    refine XS.iconst X8.here hx rfl (hb hby own_d1_16) ?_
    show Steps p.tables e below (T8.setTop (mkF m 17 #[.val (.int u)] [(.int (0 : Int32)), (.ref b8), (.ref b8), (.ref b3), (.long (0 : Int64)), (.ref b1), (.ref b1)])) _
    refine XS.lconst X8.here hx rfl (hb hby own_d1_17) ?_
    show Steps p.tables e below (T8.setTop (mkF m 18 #[.val (.int u)] [(.long (1 : Int64)), (.int (0 : Int32)), (.ref b8), (.ref b8), (.ref b3), (.long (0 : Int64)), (.ref b1), (.ref b1)])) _
    refine st11 _ ?_
    show Steps p.tables e below (T11.setTop (mkF m 19 #[.val (.int u)] [(.ref b8), (.ref b3), (.long (0 : Int64)), (.ref b1), (.ref b1)])) _
    refine st13.trans ?_
    show Steps p.tables e below (T13.setTop (mkF m 22 #[.val (.int u)] [(.ref b1)])) _
    exact retOut X13 hx (t := (.object "com/example/antigonish/antigonish/TokenSum")) Bd.returns rfl (Or.inr (Or.inr (Or.inr (Or.inr ⟨rfl, rfl, rfl⟩)))) (hb hby own_d1_22) hr
  · show own_Q_own_tok Z u h0 n0 _ T13.heap _
    exact ⟨b1, b3, b8, _, _, rfl, N13, KP, Ee13, Fk13, Fp13, Fw13, V_b3, V_b8, E_b3⟩
theorem own_d4_0 : decode prog_66_method_6_code 0 = .ok (.aload_n 0, 1) := by decide +kernel
theorem own_d4_1 : decode prog_66_method_6_code 1 = .ok (.getfield 13, 3) := by decide +kernel
theorem own_d4_4 : decode prog_66_method_6_code 4 = .ok (.invokevirtual 47, 3) := by decide +kernel
theorem own_d4_7 : decode prog_66_method_6_code 7 = .ok (.checkcast 48, 3) := by decide +kernel
theorem own_d4_10 : decode prog_66_method_6_code 10 = .ok (.areturn, 1) := by decide +kernel
theorem own_ef4 (m : MethodId) (x0 : Addr) : entryFrame m #[(.ref x0)] 1 = mkF m 0 #[.val (.ref x0)] [] := by first | (simp [entryFrame, mkF, argsToLocals, Value.category]; done) | rfl
def own_Q_own_ent (Z : State) (a : Addr) (pl : Addr) (kp : ClassId) (u : Int32) (h0 : Heap) (n0 : Nat) (v : Option Value) (h : Heap) (L : List Loc) : Prop := ∃ (b : Addr), v = some (.ref b) ∧ Fr n0 L ∧ Keep h0 h [] ∧ Arv Z h b kp .int (1 : Int32) [(.int u)] (.int (0 : Int32))
set_option maxRecDepth 65536 in
set_option maxHeartbeats 40000000 in
theorem own_ent (l : Launch) (Z : State) (a0 : Array Value) (hw : ∀ d ∈ tables_1, d.before a0 Z = true) (ws : List Jvm.Cond) (a : Addr) (pl : Addr) (kp : ClassId) (u : Int32) (h0 : Heap) (n0 : Nat) (Z0 : n0 ≤ h0.size) (Fp : Fld Z h0 a "com/example/antigonish/antigonish/TokenSum" "_places" "[I" (.ref pl)) (V : Arv Z h0 pl kp .int (1 : Int32) [(.int u)] (.int (0 : Int32))) (Ep : Exa Z h0 pl "[I") :
    MetFree l (⟨"com/example/antigonish/antigonish/TokenSum", "entries", "()[I"⟩ : MethodName) (head1 (Jvm.Cond.code (⟨"com/example/antigonish/antigonish/TokenSum", "entries", "()[I"⟩ : MethodName) prog_66_method_6_code 1 (some (.array .int)) :: ws) ({ frames := 1, cells := 1, slots := 1, locals := 14 } : Room)) (fun as_ U => as_ = #[(.ref a)] ∧ Z.Warmed39 U.vm ∧ U.heap = h0) (fun _ _ _ _ _ => True) (fun _ U o U' => ∃ v L, o = .returned v ∧ own_Q_own_ent Z a pl kp u h0 n0 v U'.heap L ∧ FrameEnd U o U' L ({ frames := 1, cells := 1, slots := 1, locals := 14 } : Room).cells ({ frames := 1, cells := 1, slots := 1, locals := 14 } : Room).slots) := by
  refine MetFree.of_bodySF (plainFor_of_name own_pn0) hisR ?_
  intro p e s m args below meth c s₁ Bd hml0 hP hK
  obtain ⟨rfl, hZ, hh⟩ := hP
  have hx := Bd.exec
  have hby := Bd.bytes
  have hml : c.maxLocals = 1 := hml0
  have hown : s.vm.findClass "com/example/antigonish/antigonish/TokenSum" = some m.cls := findClass_of_methodNamed Bd.named
  have hnm := (name_of_methodNamed Bd.named Bd.method).1
  have X0 : Stand p l e ({ frames := 1, cells := 1, slots := 1, locals := 14 } : Room) s m #[(.ref a)] below meth c s₁ [] 0 0 := Stand.of_body Bd
  have e0 : s₁.heap = h0 := by rw [← hh, Bd.state]; rfl
  have N0 := Fr.nil n0
  have pre0 : ∀ t, Steps p.tables e below (s₁.setTop (mkF m 0 #[.val (.ref a)] [])) t → Steps p.tables e below (s₁.setTop (entryFrame m #[(.ref a)] 1)) t := fun t k => castTop (own_ef4 m a) k
  have KP := Keep.refl h0 ([] : List Addr)
  obtain ⟨T1, X1, e1, st1⟩ := getF X0 hx hZ hown (host := "") (Or.inl (hw _ (List.mem_of_getElem? (i := 16) rfl))) Via.refl e0 Fp (g := (mkF m 1 #[.val (.ref a)] [(.ref a)])) rfl rfl (hb hby own_d4_1)
  obtain ⟨T2, h2, X2, e2, E2, V2, Q2, st2⟩ := cloneH X1 hx hZ hown (hw _ (List.mem_of_getElem? (i := 25) rfl)) (hw _ (List.mem_of_getElem? (i := 26) rfl)) (hw _ (List.mem_of_getElem? (i := 30) rfl)) (hw _ (List.mem_of_getElem? (i := 28) rfl)) (hw _ (List.mem_of_getElem? (i := 29) rfl)) (hw _ (List.mem_of_getElem? (i := 31) rfl)) e1 V.arh Ep (g := (mkF m 4 #[.val (.ref a)] [(.ref pl)])) rfl (by rw [hml]; rfl) rfl (hb hby own_d4_4) (by decide) (W := 0) (cap := 1) (by show 2 * 0 + _ ≤ _; exact Nat.le_of_eq rfl) (by decide) (by decide) (by decide) (by decide)
  obtain ⟨b2, g2⟩ : ∃ z, z = h0.size := ⟨_, rfl⟩
  rw [← g2] at V2 Q2 st2
  have g_b2 : n0 ≤ b2 := Nat.le_trans Z0 (Nat.le_of_eq g2.symm)
  have sz_b2 : h0.size ≤ b2 := Nat.le_trans KP.1 (Nat.le_of_eq g2.symm)
  have ne_a_b2 : a ≠ b2 := Nat.ne_of_lt (Nat.lt_of_lt_of_le Fp.lt (Nat.le_of_eq g2.symm))
  have ne_pl_b2 : pl ≠ b2 := Nat.ne_of_lt (Nat.lt_of_lt_of_le V.lt (Nat.le_of_eq g2.symm))
  have Fp := Fp.ext E2
  have V := V.ext E2
  have Ep := Ep.ext E2
  have Z3 : n0 ≤ h2.size := Nat.le_trans Z0 E2.1
  have KP := KP.ext E2
  have V_b2 : Arv Z h2 b2 kp .int (1 : Int32) [(.int u)] (.int (0 : Int32)) := V2
  obtain ⟨T4, X4, e4, st4⟩ := castY X2 hx hZ hown (hw _ (List.mem_of_getElem? (i := 32) rfl)) e2 (Ins.self Q2) (g := (mkF m 7 #[.val (.ref a)] [(.ref b2)])) rfl rfl (hb hby own_d4_7)
  obtain ⟨fs, hr, hrun, hended, hW, hsame⟩ := X4.leave (v := some (.ref b2)) (fun h => by rw [Bd.returns] at h; cases h)
  refine ⟨_, _, pre0 _ ?_, hrun, hended, _, _, rfl, ?_, ⟨_, rfl⟩, hW, hsame.mono (by decide) (by decide)⟩
  · show Steps p.tables e below (s₁.setTop (mkF m 0 #[.val (.ref a)] [])) _
    refine XS.aloadN X0.here hx rfl (hb hby own_d4_0) rfl rfl ?_
    show Steps p.tables e below (s₁.setTop (mkF m 1 #[.val (.ref a)] [(.ref a)])) _
    refine st1 _ ?_
    show Steps p.tables e below (T1.setTop (mkF m 4 #[.val (.ref a)] [(.ref pl)])) _
    refine st2 _ ?_
    show Steps p.tables e below (T2.setTop (mkF m 7 #[.val (.ref a)] [(.ref b2)])) _
    refine st4 _ ?_
    show Steps p.tables e below (T4.setTop (mkF m 10 #[.val (.ref a)] [(.ref b2)])) _
    exact retOut X4 hx (t := (.array .int)) Bd.returns rfl (Or.inr (Or.inr (Or.inr (Or.inr ⟨rfl, rfl, rfl⟩)))) (hb hby own_d4_10) hr
  · show own_Q_own_ent Z a pl kp u h0 n0 _ T4.heap _
    rw [e4]
    exact ⟨b2, rfl, N0, KP, V_b2⟩
theorem own_d5_0 : decode prog_66_method_7_code 0 = .ok (.aload_n 0, 1) := by decide +kernel
theorem own_d5_1 : decode prog_66_method_7_code 1 = .ok (.getfield 7, 3) := by decide +kernel
theorem own_d5_4 : decode prog_66_method_7_code 4 = .ok (.lstore_n 2, 1) := by decide +kernel
theorem own_d5_5 : decode prog_66_method_7_code 5 = .ok (.iconst 0, 1) := by decide +kernel
theorem own_d5_6 : decode prog_66_method_7_code 6 = .ok (.istore 4, 2) := by decide +kernel
theorem own_d5_8 : decode prog_66_method_7_code 8 = .ok (.iload 4, 2) := by decide +kernel
theorem own_d5_10 : decode prog_66_method_7_code 10 = .ok (.aload_n 0, 1) := by decide +kernel
theorem own_d5_11 : decode prog_66_method_7_code 11 = .ok (.getfield 13, 3) := by decide +kernel
theorem own_d5_14 : decode prog_66_method_7_code 14 = .ok (.arraylength, 1) := by decide +kernel
theorem own_d5_15 : decode prog_66_method_7_code 15 = .ok (.if_icmp .ge 30, 3) := by decide +kernel
theorem own_d5_18 : decode prog_66_method_7_code 18 = .ok (.lload_n 2, 1) := by decide +kernel
theorem own_d5_19 : decode prog_66_method_7_code 19 = .ok (.aload_n 0, 1) := by decide +kernel
theorem own_d5_20 : decode prog_66_method_7_code 20 = .ok (.getfield 17, 3) := by decide +kernel
theorem own_d5_23 : decode prog_66_method_7_code 23 = .ok (.iload 4, 2) := by decide +kernel
theorem own_d5_25 : decode prog_66_method_7_code 25 = .ok (.laload, 1) := by decide +kernel
theorem own_d5_26 : decode prog_66_method_7_code 26 = .ok (.aload_n 1, 1) := by decide +kernel
theorem own_d5_27 : decode prog_66_method_7_code 27 = .ok (.aload_n 0, 1) := by decide +kernel
theorem own_d5_28 : decode prog_66_method_7_code 28 = .ok (.getfield 13, 3) := by decide +kernel
theorem own_d5_31 : decode prog_66_method_7_code 31 = .ok (.iload 4, 2) := by decide +kernel
theorem own_d5_33 : decode prog_66_method_7_code 33 = .ok (.iaload, 1) := by decide +kernel
theorem own_d5_34 : decode prog_66_method_7_code 34 = .ok (.iaload, 1) := by decide +kernel
theorem own_d5_35 : decode prog_66_method_7_code 35 = .ok (.i2l, 1) := by decide +kernel
theorem own_d5_36 : decode prog_66_method_7_code 36 = .ok (.lmul, 1) := by decide +kernel
theorem own_d5_37 : decode prog_66_method_7_code 37 = .ok (.ladd, 1) := by decide +kernel
theorem own_d5_38 : decode prog_66_method_7_code 38 = .ok (.lstore_n 2, 1) := by decide +kernel
theorem own_d5_39 : decode prog_66_method_7_code 39 = .ok (.iinc 4 1, 3) := by decide +kernel
theorem own_d5_42 : decode prog_66_method_7_code 42 = .ok (.goto (-34), 3) := by decide +kernel
theorem own_d5_45 : decode prog_66_method_7_code 45 = .ok (.lload_n 2, 1) := by decide +kernel
theorem own_d5_46 : decode prog_66_method_7_code 46 = .ok (.lreturn, 1) := by decide +kernel
theorem own_ef5 (m : MethodId) (x0 : Addr) (x1 : Addr) : entryFrame m #[(.ref x0), (.ref x1)] 5 = mkF m 0 #[.val (.ref x0), .val (.ref x1), .unset, .unset, .unset] [] := by first | (simp [entryFrame, mkF, argsToLocals, Value.category]; done) | rfl
def own_Q_own_val (Z : State) (a : Addr) (ma : Addr) (pl : Addr) (wg : Addr) (kp : ClassId) (kw : ClassId) (km : ClassId) (u : Int32) (y0 : Int32) (y1 : Int32) (y2 : Int32) (y3 : Int32) (z : Int32) (h0 : Heap) (n0 : Nat) (v : Option Value) (h : Heap) (L : List Loc) : Prop := v = some (.long (z.toInt64)) ∧ Fr n0 L ∧ h = h0
set_option maxRecDepth 65536 in
set_option maxHeartbeats 40000000 in
theorem own_val (l : Launch) (Z : State) (a0 : Array Value) (hw : ∀ d ∈ tables_1, d.before a0 Z = true) (ws : List Jvm.Cond) (a : Addr) (ma : Addr) (pl : Addr) (wg : Addr) (kp : ClassId) (kw : ClassId) (km : ClassId) (u : Int32) (y0 : Int32) (y1 : Int32) (y2 : Int32) (y3 : Int32) (z : Int32) (h0 : Heap) (n0 : Nat) (Z0 : n0 ≤ h0.size) (E : Exa Z h0 a "com/example/antigonish/antigonish/TokenSum") (Fk : Fld Z h0 a "com/example/antigonish/antigonish/TokenSum" "_constant" "J" (.long (0 : Int64))) (Fp : Fld Z h0 a "com/example/antigonish/antigonish/TokenSum" "_places" "[I" (.ref pl)) (Fw : Fld Z h0 a "com/example/antigonish/antigonish/TokenSum" "_weights" "[J" (.ref wg)) (V : Arv Z h0 pl kp .int (1 : Int32) [(.int u)] (.int (0 : Int32))) (VL : Arv Z h0 wg kw .long (1 : Int32) [(.long (1 : Int64))] (.long (0 : Int64))) (VM : Arv Z h0 ma km .int (4 : Int32) [(.int y0), (.int y1), (.int y2), (.int y3)] (.int (0 : Int32))) (hu : ¬ u < 0 ∧ u < (4 : Int32)) (hz : ([(.int y0), (.int y1), (.int y2), (.int y3)] : List Value).getD u.toNatClampNeg (.int (0 : Int32)) = .int z) :
    MetFree l (⟨"com/example/antigonish/antigonish/TokenSum", "value", "([I)J"⟩ : MethodName) (head1 (Jvm.Cond.code (⟨"com/example/antigonish/antigonish/TokenSum", "value", "([I)J"⟩ : MethodName) prog_66_method_7_code 5 (some .long) :: ws) ({ frames := 0, cells := 0, slots := 0, locals := 0 } : Room)) (fun as_ U => as_ = #[(.ref a), (.ref ma)] ∧ Z.Warmed39 U.vm ∧ U.heap = h0) (fun _ _ _ _ _ => True) (fun _ U o U' => ∃ v L, o = .returned v ∧ own_Q_own_val Z a ma pl wg kp kw km u y0 y1 y2 y3 z h0 n0 v U'.heap L ∧ FrameEnd U o U' L ({ frames := 0, cells := 0, slots := 0, locals := 0 } : Room).cells ({ frames := 0, cells := 0, slots := 0, locals := 0 } : Room).slots) := by
  refine MetFree.of_bodySF (plainFor_of_name own_pn0) hisR ?_
  intro p e s m args below meth c s₁ Bd hml0 hP hK
  obtain ⟨rfl, hZ, hh⟩ := hP
  have hx := Bd.exec
  have hby := Bd.bytes
  have hml : c.maxLocals = 5 := hml0
  have hown : s.vm.findClass "com/example/antigonish/antigonish/TokenSum" = some m.cls := findClass_of_methodNamed Bd.named
  have hnm := (name_of_methodNamed Bd.named Bd.method).1
  have X0 : Stand p l e ({ frames := 0, cells := 0, slots := 0, locals := 0 } : Room) s m #[(.ref a), (.ref ma)] below meth c s₁ [] 0 0 := Stand.of_body Bd
  have e0 : s₁.heap = h0 := by rw [← hh, Bd.state]; rfl
  have N0 := Fr.nil n0
  have pre0 : ∀ t, Steps p.tables e below (s₁.setTop (mkF m 0 #[.val (.ref a), .val (.ref ma), .unset, .unset, .unset] [])) t → Steps p.tables e below (s₁.setTop (entryFrame m #[(.ref a), (.ref ma)] 5)) t := fun t k => castTop (own_ef5 m a ma) k
  obtain ⟨T1, X1, e1, st1⟩ := getF X0 hx hZ hown (host := "") (Or.inl (hw _ (List.mem_of_getElem? (i := 14) rfl))) Via.refl e0 Fk (g := (mkF m 1 #[.val (.ref a), .val (.ref ma), .unset, .unset, .unset] [(.ref a)])) rfl rfl (hb hby own_d5_1)
  obtain ⟨T2, X2, e2, st2⟩ := getF X1 hx hZ hown (host := "") (Or.inl (hw _ (List.mem_of_getElem? (i := 16) rfl))) Via.refl e1 Fp (g := (mkF m 11 #[.val (.ref a), .val (.ref ma), .val (.long (0 : Int64)), .second, .val (.int (0 : Int32))] [(.ref a), (.int (0 : Int32))])) rfl rfl (hb hby own_d5_11)
  obtain ⟨cl3, Ar3, q3, S3, M3, H3, G3⟩ := id V
  obtain ⟨T4, X4, e4, st4⟩ := getF X2 hx hZ hown (host := "") (Or.inl (hw _ (List.mem_of_getElem? (i := 18) rfl))) Via.refl e2 Fw (g := (mkF m 20 #[.val (.ref a), .val (.ref ma), .val (.long (0 : Int64)), .second, .val (.int (0 : Int32))] [(.ref a), (.long (0 : Int64))])) rfl rfl (hb hby own_d5_20)
  obtain ⟨cl5, Ar5, q5, S5, M5, H5, G5⟩ := id VL
  have hin5 : ¬ ((0 : Int32) < 0 ∨ cl5.slots.size ≤ ((0 : Int32)).toNatClampNeg) := inb_of S5 ⟨by decide, by decide⟩
  obtain ⟨T6, X6, e6, st6⟩ := getF X4 hx hZ hown (host := "") (Or.inl (hw _ (List.mem_of_getElem? (i := 16) rfl))) Via.refl e4 Fp (g := (mkF m 28 #[.val (.ref a), .val (.ref ma), .val (.long (0 : Int64)), .second, .val (.int (0 : Int32))] [(.ref a), (.ref ma), (.long (1 : Int64)), (.long (0 : Int64))])) rfl rfl (hb hby own_d5_28)
  obtain ⟨cl7, Ar7, q7, S7, M7, H7, G7⟩ := id V
  have hin7 : ¬ ((0 : Int32) < 0 ∨ cl7.slots.size ≤ ((0 : Int32)).toNatClampNeg) := inb_of S7 ⟨by decide, by decide⟩
  obtain ⟨cl8, Ar8, q8, S8, M8, H8, G8⟩ := id VM
  have hin8 : ¬ (u < 0 ∨ cl8.slots.size ≤ (u).toNatClampNeg) := inb_of S8 hu
  obtain ⟨T9, X9, e9, st9⟩ := getF X6 hx hZ hown (host := "") (Or.inl (hw _ (List.mem_of_getElem? (i := 16) rfl))) Via.refl e6 Fp (g := (mkF m 11 #[.val (.ref a), .val (.ref ma), .val (.long ((0 : Int64) + ((1 : Int64) * (z.toInt64)))), .second, .val (.int (1 : Int32))] [(.ref a), (.int (1 : Int32))])) rfl rfl (hb hby own_d5_11)
  obtain ⟨cl10, Ar10, q10, S10, M10, H10, G10⟩ := id V
  obtain ⟨fs, hr, hrun, hended, hW, hsame⟩ := X9.leave (v := some (.long ((0 : Int64) + ((1 : Int64) * (z.toInt64))))) (fun h => by rw [Bd.returns] at h; cases h)
  refine ⟨_, _, pre0 _ ?_, hrun, hended, _, _, rfl, ?_, ⟨_, rfl⟩, hW, hsame.mono (by decide) (by decide)⟩
  · show Steps p.tables e below (s₁.setTop (mkF m 0 #[.val (.ref a), .val (.ref ma), .unset, .unset, .unset] [])) _
    refine XS.aloadN X0.here hx rfl (hb hby own_d5_0) rfl rfl ?_
    show Steps p.tables e below (s₁.setTop (mkF m 1 #[.val (.ref a), .val (.ref ma), .unset, .unset, .unset] [(.ref a)])) _
    refine st1 _ ?_
    show Steps p.tables e below (T1.setTop (mkF m 4 #[.val (.ref a), .val (.ref ma), .unset, .unset, .unset] [(.long (0 : Int64))])) _
    refine XS.lstoreN X1.here hx rfl (hb hby own_d5_4) rfl (l' := #[.val (.ref a), .val (.ref ma), .val (.long (0 : Int64)), .second, .unset]) rfl ?_
    show Steps p.tables e below (T1.setTop (mkF m 5 #[.val (.ref a), .val (.ref ma), .val (.long (0 : Int64)), .second, .unset] [])) _
    refine XS.iconst X1.here hx rfl (hb hby own_d5_5) ?_
    show Steps p.tables e below (T1.setTop (mkF m 6 #[.val (.ref a), .val (.ref ma), .val (.long (0 : Int64)), .second, .unset] [(.int (0 : Int32))])) _
    refine XS.istore X1.here hx rfl (hb hby own_d5_6) rfl (l' := #[.val (.ref a), .val (.ref ma), .val (.long (0 : Int64)), .second, .val (.int (0 : Int32))]) rfl ?_
    show Steps p.tables e below (T1.setTop (mkF m 8 #[.val (.ref a), .val (.ref ma), .val (.long (0 : Int64)), .second, .val (.int (0 : Int32))] [])) _
    refine XS.iload X1.here hx rfl (hb hby own_d5_8) rfl ?_
    show Steps p.tables e below (T1.setTop (mkF m 10 #[.val (.ref a), .val (.ref ma), .val (.long (0 : Int64)), .second, .val (.int (0 : Int32))] [(.int (0 : Int32))])) _
    refine XS.aloadN X1.here hx rfl (hb hby own_d5_10) rfl rfl ?_
    show Steps p.tables e below (T1.setTop (mkF m 11 #[.val (.ref a), .val (.ref ma), .val (.long (0 : Int64)), .second, .val (.int (0 : Int32))] [(.ref a), (.int (0 : Int32))])) _
    refine st2 _ ?_
    show Steps p.tables e below (T2.setTop (mkF m 14 #[.val (.ref a), .val (.ref ma), .val (.long (0 : Int64)), .second, .val (.int (0 : Int32))] [(.ref pl), (.int (0 : Int32))])) _
    refine X2.arraylength hx (by rw [e2]; exact Ar3.1) (State.isArrayOf_alike hZ.alike Ar3.2.1) (g := (mkF m 14 #[.val (.ref a), .val (.ref ma), .val (.long (0 : Int64)), .second, .val (.int (0 : Int32))] [(.ref pl), (.int (0 : Int32))])) rfl rfl (hb hby own_d5_14) _ ?_
    rw [len_of S3 M3]
    show Steps p.tables e below (T2.setTop (mkF m 15 #[.val (.ref a), .val (.ref ma), .val (.long (0 : Int64)), .second, .val (.int (0 : Int32))] [(.int (1 : Int32)), (.int (0 : Int32))])) _
    refine XS.icmpNo X2.here hx rfl (hb hby own_d5_15) rfl (tlt (by decide : (0 : Int32) < (1 : Int32))).2.1 ?_
    show Steps p.tables e below (T2.setTop (mkF m 18 #[.val (.ref a), .val (.ref ma), .val (.long (0 : Int64)), .second, .val (.int (0 : Int32))] [])) _
    refine XS.lloadN X2.here hx rfl (hb hby own_d5_18) rfl ?_
    show Steps p.tables e below (T2.setTop (mkF m 19 #[.val (.ref a), .val (.ref ma), .val (.long (0 : Int64)), .second, .val (.int (0 : Int32))] [(.long (0 : Int64))])) _
    refine XS.aloadN X2.here hx rfl (hb hby own_d5_19) rfl rfl ?_
    show Steps p.tables e below (T2.setTop (mkF m 20 #[.val (.ref a), .val (.ref ma), .val (.long (0 : Int64)), .second, .val (.int (0 : Int32))] [(.ref a), (.long (0 : Int64))])) _
    refine st4 _ ?_
    show Steps p.tables e below (T4.setTop (mkF m 23 #[.val (.ref a), .val (.ref ma), .val (.long (0 : Int64)), .second, .val (.int (0 : Int32))] [(.ref wg), (.long (0 : Int64))])) _
    refine XS.iload X4.here hx rfl (hb hby own_d5_23) rfl ?_
    show Steps p.tables e below (T4.setTop (mkF m 25 #[.val (.ref a), .val (.ref ma), .val (.long (0 : Int64)), .second, .val (.int (0 : Int32))] [(.int (0 : Int32)), (.ref wg), (.long (0 : Int64))])) _
    refine X4.laload hx (j := (0 : Int32)) (v := (.long (1 : Int64))) (by rw [e4]; exact Ar5.1) (State.isArrayOf_alike hZ.alike Ar5.2.1) Ar5.2.2 hin5 (H5.at hin5 rfl) (g := (mkF m 25 #[.val (.ref a), .val (.ref ma), .val (.long (0 : Int64)), .second, .val (.int (0 : Int32))] [(.int (0 : Int32)), (.ref wg), (.long (0 : Int64))])) rfl rfl (hb hby own_d5_25) _ ?_
    show Steps p.tables e below (T4.setTop (mkF m 26 #[.val (.ref a), .val (.ref ma), .val (.long (0 : Int64)), .second, .val (.int (0 : Int32))] [(.long (1 : Int64)), (.long (0 : Int64))])) _
    refine XS.aloadN X4.here hx rfl (hb hby own_d5_26) rfl rfl ?_
    show Steps p.tables e below (T4.setTop (mkF m 27 #[.val (.ref a), .val (.ref ma), .val (.long (0 : Int64)), .second, .val (.int (0 : Int32))] [(.ref ma), (.long (1 : Int64)), (.long (0 : Int64))])) _
    refine XS.aloadN X4.here hx rfl (hb hby own_d5_27) rfl rfl ?_
    show Steps p.tables e below (T4.setTop (mkF m 28 #[.val (.ref a), .val (.ref ma), .val (.long (0 : Int64)), .second, .val (.int (0 : Int32))] [(.ref a), (.ref ma), (.long (1 : Int64)), (.long (0 : Int64))])) _
    refine st6 _ ?_
    show Steps p.tables e below (T6.setTop (mkF m 31 #[.val (.ref a), .val (.ref ma), .val (.long (0 : Int64)), .second, .val (.int (0 : Int32))] [(.ref pl), (.ref ma), (.long (1 : Int64)), (.long (0 : Int64))])) _
    refine XS.iload X6.here hx rfl (hb hby own_d5_31) rfl ?_
    show Steps p.tables e below (T6.setTop (mkF m 33 #[.val (.ref a), .val (.ref ma), .val (.long (0 : Int64)), .second, .val (.int (0 : Int32))] [(.int (0 : Int32)), (.ref pl), (.ref ma), (.long (1 : Int64)), (.long (0 : Int64))])) _
    refine X6.iaload hx (j := (0 : Int32)) (v := (.int u)) (by rw [e6]; exact Ar7.1) (State.isArrayOf_alike hZ.alike Ar7.2.1) Ar7.2.2 hin7 (H7.at hin7 rfl) (g := (mkF m 33 #[.val (.ref a), .val (.ref ma), .val (.long (0 : Int64)), .second, .val (.int (0 : Int32))] [(.int (0 : Int32)), (.ref pl), (.ref ma), (.long (1 : Int64)), (.long (0 : Int64))])) rfl rfl (hb hby own_d5_33) _ ?_
    show Steps p.tables e below (T6.setTop (mkF m 34 #[.val (.ref a), .val (.ref ma), .val (.long (0 : Int64)), .second, .val (.int (0 : Int32))] [(.int u), (.ref ma), (.long (1 : Int64)), (.long (0 : Int64))])) _
    refine X6.iaload hx (j := u) (v := (.int z)) (by rw [e6]; exact Ar8.1) (State.isArrayOf_alike hZ.alike Ar8.2.1) Ar8.2.2 hin8 (H8.at hin8 hz) (g := (mkF m 34 #[.val (.ref a), .val (.ref ma), .val (.long (0 : Int64)), .second, .val (.int (0 : Int32))] [(.int u), (.ref ma), (.long (1 : Int64)), (.long (0 : Int64))])) rfl rfl (hb hby own_d5_34) _ ?_
    show Steps p.tables e below (T6.setTop (mkF m 35 #[.val (.ref a), .val (.ref ma), .val (.long (0 : Int64)), .second, .val (.int (0 : Int32))] [(.int z), (.long (1 : Int64)), (.long (0 : Int64))])) _
    refine XS.i2l X6.here hx rfl (hb hby own_d5_35) rfl ?_
    show Steps p.tables e below (T6.setTop (mkF m 36 #[.val (.ref a), .val (.ref ma), .val (.long (0 : Int64)), .second, .val (.int (0 : Int32))] [(.long (z.toInt64)), (.long (1 : Int64)), (.long (0 : Int64))])) _
    refine XS.lmul X6.here hx rfl (hb hby own_d5_36) rfl ?_
    show Steps p.tables e below (T6.setTop (mkF m 37 #[.val (.ref a), .val (.ref ma), .val (.long (0 : Int64)), .second, .val (.int (0 : Int32))] [(.long ((1 : Int64) * (z.toInt64))), (.long (0 : Int64))])) _
    refine XS.ladd X6.here hx rfl (hb hby own_d5_37) rfl ?_
    show Steps p.tables e below (T6.setTop (mkF m 38 #[.val (.ref a), .val (.ref ma), .val (.long (0 : Int64)), .second, .val (.int (0 : Int32))] [(.long ((0 : Int64) + ((1 : Int64) * (z.toInt64))))])) _
    refine XS.lstoreN X6.here hx rfl (hb hby own_d5_38) rfl (l' := #[.val (.ref a), .val (.ref ma), .val (.long ((0 : Int64) + ((1 : Int64) * (z.toInt64)))), .second, .val (.int (0 : Int32))]) rfl ?_
    show Steps p.tables e below (T6.setTop (mkF m 39 #[.val (.ref a), .val (.ref ma), .val (.long ((0 : Int64) + ((1 : Int64) * (z.toInt64)))), .second, .val (.int (0 : Int32))] [])) _
    refine XS.iinc X6.here hx rfl (hb hby own_d5_39) rfl (l' := #[.val (.ref a), .val (.ref ma), .val (.long ((0 : Int64) + ((1 : Int64) * (z.toInt64)))), .second, .val (.int (1 : Int32))]) rfl ?_
    show Steps p.tables e below (T6.setTop (mkF m 42 #[.val (.ref a), .val (.ref ma), .val (.long ((0 : Int64) + ((1 : Int64) * (z.toInt64)))), .second, .val (.int (1 : Int32))] [])) _
    refine XS.goto X6.here hx rfl (pc0 := 42) (pc' := 8) rfl (hb hby own_d5_42) (by decide) (by decide) ?_
    show Steps p.tables e below (T6.setTop (mkF m 8 #[.val (.ref a), .val (.ref ma), .val (.long ((0 : Int64) + ((1 : Int64) * (z.toInt64)))), .second, .val (.int (1 : Int32))] [])) _
    refine XS.iload X6.here hx rfl (hb hby own_d5_8) rfl ?_
    show Steps p.tables e below (T6.setTop (mkF m 10 #[.val (.ref a), .val (.ref ma), .val (.long ((0 : Int64) + ((1 : Int64) * (z.toInt64)))), .second, .val (.int (1 : Int32))] [(.int (1 : Int32))])) _
    refine XS.aloadN X6.here hx rfl (hb hby own_d5_10) rfl rfl ?_
    show Steps p.tables e below (T6.setTop (mkF m 11 #[.val (.ref a), .val (.ref ma), .val (.long ((0 : Int64) + ((1 : Int64) * (z.toInt64)))), .second, .val (.int (1 : Int32))] [(.ref a), (.int (1 : Int32))])) _
    refine st9 _ ?_
    show Steps p.tables e below (T9.setTop (mkF m 14 #[.val (.ref a), .val (.ref ma), .val (.long ((0 : Int64) + ((1 : Int64) * (z.toInt64)))), .second, .val (.int (1 : Int32))] [(.ref pl), (.int (1 : Int32))])) _
    refine X9.arraylength hx (by rw [e9]; exact Ar10.1) (State.isArrayOf_alike hZ.alike Ar10.2.1) (g := (mkF m 14 #[.val (.ref a), .val (.ref ma), .val (.long ((0 : Int64) + ((1 : Int64) * (z.toInt64)))), .second, .val (.int (1 : Int32))] [(.ref pl), (.int (1 : Int32))])) rfl rfl (hb hby own_d5_14) _ ?_
    rw [len_of S10 M10]
    show Steps p.tables e below (T9.setTop (mkF m 15 #[.val (.ref a), .val (.ref ma), .val (.long ((0 : Int64) + ((1 : Int64) * (z.toInt64)))), .second, .val (.int (1 : Int32))] [(.int (1 : Int32)), (.int (1 : Int32))])) _
    refine XS.icmpYes X9.here hx rfl (pc0 := 15) (pc' := 45) rfl (hb hby own_d5_15) rfl (flt (by decide : ¬ ((1 : Int32) < (1 : Int32)))).2.1 (by decide) (by decide) ?_
    show Steps p.tables e below (T9.setTop (mkF m 45 #[.val (.ref a), .val (.ref ma), .val (.long ((0 : Int64) + ((1 : Int64) * (z.toInt64)))), .second, .val (.int (1 : Int32))] [])) _
    refine XS.lloadN X9.here hx rfl (hb hby own_d5_45) rfl ?_
    show Steps p.tables e below (T9.setTop (mkF m 46 #[.val (.ref a), .val (.ref ma), .val (.long ((0 : Int64) + ((1 : Int64) * (z.toInt64)))), .second, .val (.int (1 : Int32))] [(.long ((0 : Int64) + ((1 : Int64) * (z.toInt64))))])) _
    exact retOut X9 hx (t := .long) Bd.returns rfl (Or.inr (Or.inl ⟨rfl, rfl, _, rfl⟩)) (hb hby own_d5_46) hr
  · show own_Q_own_val Z a ma pl wg kp kw km u y0 y1 y2 y3 z h0 n0 _ T9.heap _
    rw [e9]
    exact ⟨own_lv (by simp), N0, rfl⟩
theorem own_pd1 : parseMethodDescriptor "(I)Lcom/example/antigonish/antigonish/TokenSum;" = some ⟨[.int], some (.object "com/example/antigonish/antigonish/TokenSum")⟩ := by decide +kernel
theorem own_pd2 : parseMethodDescriptor "()[I" = some ⟨[], some (.array .int)⟩ := by decide +kernel
theorem own_pd3 : parseMethodDescriptor "([I)J" = some ⟨[(.array .int)], some .long⟩ := by decide +kernel
theorem own_pn1 : plainName "com/example/antigonish/antigonish/TokenSumTokensPinLaw" = true := by first | (simp [plainName, overriddenIn]; done) | decide +kernel
theorem own_ef0 (m : MethodId) (x0 : Int32) (x1 : Int32) (x2 : Int32) (x3 : Int32) (x4 : Int32) : entryFrame m #[(.int x0), (.int x1), (.int x2), (.int x3), (.int x4)] maxLocals = mkF m 0 #[.val (.int x0), .val (.int x1), .val (.int x2), .val (.int x3), .val (.int x4), .unset, .unset, .unset, .unset, .unset, .unset, .unset] [] := by first | (simp [entryFrame, mkF, argsToLocals, Value.category, maxLocals]; done) | rfl
def own_Q_own_law (Z : State) (x0 : Int32) (y0 : Int32) (y1 : Int32) (y2 : Int32) (y3 : Int32) (h0 : Heap) (n0 : Nat) (v : Option Value) (h : Heap) (L : List Loc) : Prop := v = some (.int 1) ∧ Fr n0 L
set_option maxRecDepth 65536 in
set_option maxHeartbeats 40000000 in
theorem own_law (l : Launch) (Z : State) (a0 : Array Value) (hw : ∀ d ∈ tables_1, d.before a0 Z = true) (ws : List Jvm.Cond) (x0 : Int32) (y0 : Int32) (y1 : Int32) (y2 : Int32) (y3 : Int32) (h0 : Heap) (n0 : Nat) (Z0 : n0 ≤ h0.size) :
    MetFree l x (head1 (Jvm.Cond.code x code maxLocals ret :: ws) room_1) (fun as_ U => as_ = #[(.int x0), (.int y0), (.int y1), (.int y2), (.int y3)] ∧ Z.Warmed39 U.vm ∧ U.heap = h0) (fun _ _ _ _ _ => True) (fun _ U o U' => ∃ v L, o = .returned v ∧ own_Q_own_law Z x0 y0 y1 y2 y3 h0 n0 v U'.heap L ∧ FrameEnd U o U' L room_1.cells room_1.slots) := by
  refine MetFree.of_bodySF (plainFor_of_name own_pn1) hisR ?_
  intro p e s m args below meth c s₁ Bd hml0 hP hK
  obtain ⟨rfl, hZ, hh⟩ := hP
  have hx := Bd.exec
  have hby := Bd.bytes
  have hml : c.maxLocals = 12 := hml0
  have hown : s.vm.findClass "com/example/antigonish/antigonish/TokenSumTokensPinLaw" = some m.cls := findClass_of_methodNamed Bd.named
  have hnm := (name_of_methodNamed Bd.named Bd.method).1
  have X0 : Stand p l e room_1 s m #[(.int x0), (.int y0), (.int y1), (.int y2), (.int y3)] below meth c s₁ [] 0 0 := Stand.of_body Bd
  have e0 : s₁.heap = h0 := by rw [← hh, Bd.state]; rfl
  have N0 := Fr.nil n0
  have pre0 : ∀ t, Steps p.tables e below (s₁.setTop (mkF m 0 #[.val (.int x0), .val (.int y0), .val (.int y1), .val (.int y2), .val (.int y3), .unset, .unset, .unset, .unset, .unset, .unset, .unset] [])) t → Steps p.tables e below (s₁.setTop (entryFrame m #[(.int x0), (.int y0), (.int y1), (.int y2), (.int y3)] maxLocals)) t := fun t k => castTop (own_ef0 m x0 y0 y1 y2 y3) k
  obtain ⟨_, _, ⟨T1, L1, k1, n1⟩, -, X1, ⟨Lc1, hQ1, l1, y1, z1⟩, st1⟩ := Jvm.LawKit.callS X0 hx (y := (⟨"com/example/antigonish/antigonish/TokenSum", "tokens", "(I)Lcom/example/antigonish/antigonish/TokenSum;"⟩ : MethodName)) hown (mvT hZ (hw _ (List.mem_of_getElem? (i := 0) rfl))) (mvT hZ (hw _ (List.mem_of_getElem? (i := 1) rfl))) (mvT hZ (hw _ (List.mem_of_getElem? (i := 2) rfl))) (mvT hZ (hw _ (List.mem_of_getElem? (i := 3) rfl))) (by decide) (backOf (W := 0) (own_tok l Z a0 hw [] x0  h0 n0 Z0 ) hZ (hw _ (List.mem_of_getElem? (i := 3) rfl)) (hw _ (List.mem_of_getElem? (i := 2) rfl)) (by decide) (by decide)) (g := (mkF m 1 #[.val (.int x0), .val (.int y0), .val (.int y1), .val (.int y2), .val (.int y3), .unset, .unset, .unset, .unset, .unset, .unset, .unset] [(.int x0)])) rfl (by rw [hml]; rfl) (argsL := [(.int x0)]) (rest := []) (lenOf own_pd1 rfl) rfl (by show 2 * 0 + _ ≤ _; exact Nat.le_of_eq rfl) (hb hby at_1) (fun _ _ => ⟨rfl, e0, (by decide : 0 + 3 ≤ _), (by decide : 0 + 5 ≤ _)⟩)
  dsimp only [Pt.U, Pt.locs, Pt.cells, Pt.slots] at X1 l1 y1 z1 st1 hQ1
  subst l1 y1 z1
  obtain ⟨b1, pl1, wg1, kp1, kw1, rfl, N1q, K1, Ee1, Fk1, Fp1, Fw1, Vp1, Vw1, Ep1⟩ := hQ1
  have N1 := Fr.app N0 N1q
  have Z2 := Nat.le_trans Z0 K1.1
  obtain ⟨cq3, kq3, q3a, q3b, q3c⟩ := isOf hZ rfl Ee1
  obtain ⟨_, _, ⟨T3, L3, k3, n3⟩, -, X3, ⟨Lc3, hQ3, l3, y3, z3⟩, st3⟩ := X1.virtualBack hx (y := (⟨"com/example/antigonish/antigonish/TokenSum", "entries", "()[I"⟩ : MethodName)) (z := (⟨"com/example/antigonish/antigonish/TokenSum", "entries", "()[I"⟩ : MethodName)) hown (mvT hZ (hw _ (List.mem_of_getElem? (i := 20) rfl))) (mvT hZ (hw _ (List.mem_of_getElem? (i := 21) rfl))) (notFace_of_selects (args := #[]) (mvT hZ (hw _ (List.mem_of_getElem? (i := 23) rfl)))) (mvT hZ (hw _ (List.mem_of_getElem? (i := 23) rfl))) (mvT hZ (hw _ (List.mem_of_getElem? (i := 22) rfl))) (by decide) (backOf (W := 0) (own_ent l Z a0 hw [] b1 pl1 kp1 x0 T1.heap n0 Z2 Fp1 Vp1 Ep1) hZ (hw _ (List.mem_of_getElem? (i := 24) rfl)) (hw _ (List.mem_of_getElem? (i := 2) rfl)) (by decide) (by decide)) q3a q3c (g := (mkF m 8 #[.val (.int x0), .val (.int y0), .val (.int y1), .val (.int y2), .val (.int y3), .val (.ref b1), .unset, .unset, .unset, .unset, .unset, .unset] [(.ref b1)])) rfl (by rw [hml]; rfl) (Steps.refl _) (argsL := []) (rest := []) (lenOf own_pd2 rfl) rfl (by show 2 * 0 + _ ≤ _; exact Nat.le_of_eq rfl) (hb hby at_8) (fun _ _ => ⟨rfl, rfl, (by decide : 3 + 1 ≤ _), (by decide : 5 + 1 ≤ _)⟩)
  dsimp only [Pt.U, Pt.locs, Pt.cells, Pt.slots] at X3 l3 y3 z3 st3 hQ3
  subst l3 y3 z3
  obtain ⟨b3, rfl, N3q, K3, V3⟩ := hQ3
  have N3 := Fr.app N1 N3q
  have Ee1 := Ee1.keep K3
  have Fk1 := Fk1.keep K3 nin0
  have Fp1 := Fp1.keep K3 nin0
  have Fw1 := Fw1.keep K3 nin0
  have Vp1 := Vp1.keep K3 nin0
  have Ep1 := Ep1.keep K3
  have Vw1 := Vw1.keep K3 nin0
  have Z4 := Nat.le_trans Z2 K3.1
  obtain ⟨cl5, Ar5, q5, S5, M5, H5, G5⟩ := id V3
  obtain ⟨cl6, Ar6, q6, S6, M6, H6, G6⟩ := id V3
  have hin6 : ¬ ((0 : Int32) < 0 ∨ cl6.slots.size ≤ ((0 : Int32)).toNatClampNeg) := inb_of S6 ⟨by decide, by decide⟩
  obtain ⟨T7, h7, k7, X7, e7, E7, A7, st7⟩ := newP X3 hx hZ (hw _ (List.mem_of_getElem? (i := 6) rfl)) rfl (g := (mkF m 36 #[.val (.int x0), .val (.int y0), .val (.int y1), .val (.int y2), .val (.int y3), .val (.ref b1), .val (.ref b3), .val (.int (x0 &&& (3 : Int32))), .unset, .unset, .unset, .unset] [(.int (4 : Int32))])) rfl (hb hby at_36) rfl (by decide) (cap := 4) (by decide) (by decide) (by decide) (by decide)
  obtain ⟨b7, g7⟩ : ∃ z, z = T3.heap.size := ⟨_, rfl⟩
  rw [← g7] at A7 st7
  have g_b7 : n0 ≤ b7 := Nat.le_trans Z4 (Nat.le_of_eq g7.symm)
  have Z8 : n0 ≤ h7.size := Nat.le_trans Z4 E7.1
  have V_b7 : Arv Z h7 b7 k7 .int (4 : Int32) [(.int (0 : Int32)), (.int (0 : Int32)), (.int (0 : Int32)), (.int (0 : Int32))] (.int (0 : Int32)) := (Arv.new A7 (by decide)).pad (pad_rep [] (.int (0 : Int32)) 4)
  obtain ⟨cl9, Ar9, q9, S9, M9, H9, G9⟩ := id V_b7
  have hin9 : ¬ ((0 : Int32) < 0 ∨ cl9.slots.size ≤ ((0 : Int32)).toNatClampNeg) := inb_of S9 ⟨by decide, by decide⟩
  obtain ⟨T10, h10, X10, e10, W10, st10⟩ := stI X7 hx hZ e7 Ar9 (j := (0 : Int32)) hin9 (g := (mkF m 44 #[.val (.int x0), .val (.int y0), .val (.int y1), .val (.int y2), .val (.int y3), .val (.ref b1), .val (.ref b3), .val (.int (x0 &&& (3 : Int32))), .val (.ref b7), .unset, .unset, .unset] [(.int y0), (.int (0 : Int32)), (.ref b7)])) rfl rfl (hb hby at_44)
  have Z11 : n0 ≤ h10.size := Nat.le_trans Z8 (Keep.of_wr W10).1
  have V_b7 := Arv.set Ar9 q9 S9 M9 H9 G9 rfl W10 0 rfl (Nat.le_of_ble_eq_true rfl)
  have V_b7 : Arv Z h10 b7 k7 .int (4 : Int32) [(.int y0), (.int (0 : Int32)), (.int (0 : Int32)), (.int (0 : Int32))] (.int (0 : Int32)) := V_b7
  have N10 := Fr.snoc X10 N3 g_b7
  obtain ⟨cl12, Ar12, q12, S12, M12, H12, G12⟩ := id V_b7
  have hin12 : ¬ ((1 : Int32) < 0 ∨ cl12.slots.size ≤ ((1 : Int32)).toNatClampNeg) := inb_of S12 ⟨by decide, by decide⟩
  obtain ⟨T13, h13, X13, e13, W13, st13⟩ := stI X10 hx hZ e10 Ar12 (j := (1 : Int32)) hin12 (g := (mkF m 49 #[.val (.int x0), .val (.int y0), .val (.int y1), .val (.int y2), .val (.int y3), .val (.ref b1), .val (.ref b3), .val (.int (x0 &&& (3 : Int32))), .val (.ref b7), .unset, .unset, .unset] [(.int y1), (.int (1 : Int32)), (.ref b7)])) rfl rfl (hb hby at_49)
  have Z14 : n0 ≤ h13.size := Nat.le_trans Z11 (Keep.of_wr W13).1
  have V_b7 := Arv.set Ar12 q12 S12 M12 H12 G12 rfl W13 1 rfl (Nat.le_of_ble_eq_true rfl)
  have V_b7 : Arv Z h13 b7 k7 .int (4 : Int32) [(.int y0), (.int y1), (.int (0 : Int32)), (.int (0 : Int32))] (.int (0 : Int32)) := V_b7
  have N13 := Fr.snoc X13 N10 g_b7
  obtain ⟨cl15, Ar15, q15, S15, M15, H15, G15⟩ := id V_b7
  have hin15 : ¬ ((2 : Int32) < 0 ∨ cl15.slots.size ≤ ((2 : Int32)).toNatClampNeg) := inb_of S15 ⟨by decide, by decide⟩
  obtain ⟨T16, h16, X16, e16, W16, st16⟩ := stI X13 hx hZ e13 Ar15 (j := (2 : Int32)) hin15 (g := (mkF m 54 #[.val (.int x0), .val (.int y0), .val (.int y1), .val (.int y2), .val (.int y3), .val (.ref b1), .val (.ref b3), .val (.int (x0 &&& (3 : Int32))), .val (.ref b7), .unset, .unset, .unset] [(.int y2), (.int (2 : Int32)), (.ref b7)])) rfl rfl (hb hby at_54)
  have Z17 : n0 ≤ h16.size := Nat.le_trans Z14 (Keep.of_wr W16).1
  have V_b7 := Arv.set Ar15 q15 S15 M15 H15 G15 rfl W16 2 rfl (Nat.le_of_ble_eq_true rfl)
  have V_b7 : Arv Z h16 b7 k7 .int (4 : Int32) [(.int y0), (.int y1), (.int y2), (.int (0 : Int32))] (.int (0 : Int32)) := V_b7
  have N16 := Fr.snoc X16 N13 g_b7
  obtain ⟨cl18, Ar18, q18, S18, M18, H18, G18⟩ := id V_b7
  have hin18 : ¬ ((3 : Int32) < 0 ∨ cl18.slots.size ≤ ((3 : Int32)).toNatClampNeg) := inb_of S18 ⟨by decide, by decide⟩
  obtain ⟨T19, h19, X19, e19, W19, st19⟩ := stI X16 hx hZ e16 Ar18 (j := (3 : Int32)) hin18 (g := (mkF m 60 #[.val (.int x0), .val (.int y0), .val (.int y1), .val (.int y2), .val (.int y3), .val (.ref b1), .val (.ref b3), .val (.int (x0 &&& (3 : Int32))), .val (.ref b7), .unset, .unset, .unset] [(.int y3), (.int (3 : Int32)), (.ref b7)])) rfl rfl (hb hby at_60)
  have Z20 : n0 ≤ h19.size := Nat.le_trans Z17 (Keep.of_wr W19).1
  have V_b7 := Arv.set Ar18 q18 S18 M18 H18 G18 rfl W19 3 rfl (Nat.le_of_ble_eq_true rfl)
  have V_b7 : Arv Z h19 b7 k7 .int (4 : Int32) [(.int y0), (.int y1), (.int y2), (.int y3)] (.int (0 : Int32)) := V_b7
  have N19 := Fr.snoc X19 N16 g_b7
  obtain ⟨_, _, ⟨T21, L21, k21, n21⟩, -, X21, ⟨Lc21, hQ21, l21, y21, z21⟩, st21⟩ := Jvm.LawKit.callS X19 hx (y := (⟨"com/example/antigonish/antigonish/TokenSum", "tokens", "(I)Lcom/example/antigonish/antigonish/TokenSum;"⟩ : MethodName)) hown (mvT hZ (hw _ (List.mem_of_getElem? (i := 0) rfl))) (mvT hZ (hw _ (List.mem_of_getElem? (i := 1) rfl))) (mvT hZ (hw _ (List.mem_of_getElem? (i := 2) rfl))) (mvT hZ (hw _ (List.mem_of_getElem? (i := 3) rfl))) (by decide) (backOf (W := 0) (own_tok l Z a0 hw [] (x0 &&& (3 : Int32))  h19 n0 Z20 ) hZ (hw _ (List.mem_of_getElem? (i := 3) rfl)) (hw _ (List.mem_of_getElem? (i := 2) rfl)) (by decide) (by decide)) (g := (mkF m 63 #[.val (.int x0), .val (.int y0), .val (.int y1), .val (.int y2), .val (.int y3), .val (.ref b1), .val (.ref b3), .val (.int (x0 &&& (3 : Int32))), .val (.ref b7), .unset, .unset, .unset] [(.int (x0 &&& (3 : Int32)))])) rfl (by rw [hml]; rfl) (argsL := [(.int (x0 &&& (3 : Int32)))]) (rest := []) (lenOf own_pd1 rfl) rfl (by show 2 * 0 + _ ≤ _; exact Nat.le_of_eq rfl) (hb hby at_63) (fun _ _ => ⟨rfl, e19, (by decide : 5 + 3 ≤ _), (by decide : 10 + 5 ≤ _)⟩)
  dsimp only [Pt.U, Pt.locs, Pt.cells, Pt.slots] at X21 l21 y21 z21 st21 hQ21
  subst l21 y21 z21
  obtain ⟨b21, pl21, wg21, kp21, kw21, rfl, N21q, K21, Ee21, Fk21, Fp21, Fw21, Vp21, Vw21, Ep21⟩ := hQ21
  have N21 := Fr.app N19 N21q
  have V_b7 := V_b7.keep K21 nin0
  have Z22 := Nat.le_trans Z20 K21.1
  have hu := own_q x0
  obtain ⟨z, hz⟩ := own_el (x0 &&& (3 : Int32)) y0 y1 y2 y3 hu
  obtain ⟨cq23, kq23, q23a, q23b, q23c⟩ := isOf hZ rfl Ee21
  obtain ⟨_, _, ⟨T23, L23, k23, n23⟩, -, X23, ⟨Lc23, hQ23, l23, y23, z23⟩, st23⟩ := X21.virtualBack hx (y := (⟨"com/example/antigonish/antigonish/TokenSum", "value", "([I)J"⟩ : MethodName)) (z := (⟨"com/example/antigonish/antigonish/TokenSum", "value", "([I)J"⟩ : MethodName)) hown (mvT hZ (hw _ (List.mem_of_getElem? (i := 34) rfl))) (mvT hZ (hw _ (List.mem_of_getElem? (i := 35) rfl))) (notFace_of_selects (args := #[]) (mvT hZ (hw _ (List.mem_of_getElem? (i := 37) rfl)))) (mvT hZ (hw _ (List.mem_of_getElem? (i := 37) rfl))) (mvT hZ (hw _ (List.mem_of_getElem? (i := 36) rfl))) (by decide) (backOf (W := 0) (own_val l Z a0 hw [] b21 b7 pl21 wg21 kp21 kw21 k7 (x0 &&& (3 : Int32)) y0 y1 y2 y3 z T21.heap n0 Z22 Ee21 Fk21 Fp21 Fw21 Vp21 Vw21 V_b7 hu hz) hZ (hw _ (List.mem_of_getElem? (i := 38) rfl)) (hw _ (List.mem_of_getElem? (i := 2) rfl)) (by decide) (by decide)) q23a q23c (g := (mkF m 72 #[.val (.int x0), .val (.int y0), .val (.int y1), .val (.int y2), .val (.int y3), .val (.ref b1), .val (.ref b3), .val (.int (x0 &&& (3 : Int32))), .val (.ref b7), .val (.ref b21), .unset, .unset] [(.ref b7), (.ref b21)])) rfl (by rw [hml]; rfl) (Steps.refl _) (argsL := [(.ref b7)]) (rest := []) (lenOf own_pd3 rfl) rfl (by show 2 * 0 + _ ≤ _; exact Nat.le_of_eq rfl) (hb hby at_72) (fun _ _ => ⟨rfl, rfl, (by decide : 8 + 0 ≤ _), (by decide : 15 + 0 ≤ _)⟩)
  dsimp only [Pt.U, Pt.locs, Pt.cells, Pt.slots] at X23 l23 y23 z23 st23 hQ23
  subst l23 y23 z23
  obtain ⟨rfl, N23q, e23⟩ := hQ23
  have N23 := Fr.app N21 N23q
  obtain ⟨cl24, Ar24, q24, S24, M24, H24, G24⟩ := id V_b7
  have hin24 : ¬ ((x0 &&& (3 : Int32)) < 0 ∨ cl24.slots.size ≤ ((x0 &&& (3 : Int32))).toNatClampNeg) := inb_of S24 hu
  obtain ⟨fs, hr, hrun, hended, hW, hsame⟩ := X23.leave (v := some (.int (1 : Int32))) (fun h => by rw [Bd.returns] at h; cases h)
  refine ⟨_, _, pre0 _ ?_, hrun, hended, _, _, rfl, ?_, ⟨_, rfl⟩, hW, hsame.mono (by decide) (by decide)⟩
  · show Steps p.tables e below (s₁.setTop (mkF m 0 #[.val (.int x0), .val (.int y0), .val (.int y1), .val (.int y2), .val (.int y3), .unset, .unset, .unset, .unset, .unset, .unset, .unset] [])) _
    refine XS.iloadN X0.here hx rfl (hb hby at_0) rfl ?_
    show Steps p.tables e below (s₁.setTop (mkF m 1 #[.val (.int x0), .val (.int y0), .val (.int y1), .val (.int y2), .val (.int y3), .unset, .unset, .unset, .unset, .unset, .unset, .unset] [(.int x0)])) _
    refine st1 _ ?_
    show Steps p.tables e below (T1.setTop (mkF m 4 #[.val (.int x0), .val (.int y0), .val (.int y1), .val (.int y2), .val (.int y3), .unset, .unset, .unset, .unset, .unset, .unset, .unset] [(.ref b1)])) _
    refine XS.astore X1.here hx rfl (hb hby at_4) rfl rfl (l' := #[.val (.int x0), .val (.int y0), .val (.int y1), .val (.int y2), .val (.int y3), .val (.ref b1), .unset, .unset, .unset, .unset, .unset, .unset]) rfl ?_
    show Steps p.tables e below (T1.setTop (mkF m 6 #[.val (.int x0), .val (.int y0), .val (.int y1), .val (.int y2), .val (.int y3), .val (.ref b1), .unset, .unset, .unset, .unset, .unset, .unset] [])) _
    refine XS.aload X1.here hx rfl (hb hby at_6) rfl rfl ?_
    show Steps p.tables e below (T1.setTop (mkF m 8 #[.val (.int x0), .val (.int y0), .val (.int y1), .val (.int y2), .val (.int y3), .val (.ref b1), .unset, .unset, .unset, .unset, .unset, .unset] [(.ref b1)])) _
    refine st3.trans ?_
    show Steps p.tables e below (T3.setTop (mkF m 11 #[.val (.int x0), .val (.int y0), .val (.int y1), .val (.int y2), .val (.int y3), .val (.ref b1), .unset, .unset, .unset, .unset, .unset, .unset] [(.ref b3)])) _
    refine XS.astore X3.here hx rfl (hb hby at_11) rfl rfl (l' := #[.val (.int x0), .val (.int y0), .val (.int y1), .val (.int y2), .val (.int y3), .val (.ref b1), .val (.ref b3), .unset, .unset, .unset, .unset, .unset]) rfl ?_
    show Steps p.tables e below (T3.setTop (mkF m 13 #[.val (.int x0), .val (.int y0), .val (.int y1), .val (.int y2), .val (.int y3), .val (.ref b1), .val (.ref b3), .unset, .unset, .unset, .unset, .unset] [])) _
    refine XS.aload X3.here hx rfl (hb hby at_13) rfl rfl ?_
    show Steps p.tables e below (T3.setTop (mkF m 15 #[.val (.int x0), .val (.int y0), .val (.int y1), .val (.int y2), .val (.int y3), .val (.ref b1), .val (.ref b3), .unset, .unset, .unset, .unset, .unset] [(.ref b3)])) _
    refine X3.arraylength hx Ar5.1 (State.isArrayOf_alike hZ.alike Ar5.2.1) (g := (mkF m 15 #[.val (.int x0), .val (.int y0), .val (.int y1), .val (.int y2), .val (.int y3), .val (.ref b1), .val (.ref b3), .unset, .unset, .unset, .unset, .unset] [(.ref b3)])) rfl rfl (hb hby at_15) _ ?_
    rw [len_of S5 M5]
    show Steps p.tables e below (T3.setTop (mkF m 16 #[.val (.int x0), .val (.int y0), .val (.int y1), .val (.int y2), .val (.int y3), .val (.ref b1), .val (.ref b3), .unset, .unset, .unset, .unset, .unset] [(.int (1 : Int32))])) _
    refine XS.iconst X3.here hx rfl (hb hby at_16) ?_
    show Steps p.tables e below (T3.setTop (mkF m 17 #[.val (.int x0), .val (.int y0), .val (.int y1), .val (.int y2), .val (.int y3), .val (.ref b1), .val (.ref b3), .unset, .unset, .unset, .unset, .unset] [(.int (1 : Int32)), (.int (1 : Int32))])) _
    refine XS.icmpNo X3.here hx rfl (hb hby at_17) rfl (teq (by decide : (1 : Int32) = (1 : Int32))).2 ?_
    show Steps p.tables e below (T3.setTop (mkF m 20 #[.val (.int x0), .val (.int y0), .val (.int y1), .val (.int y2), .val (.int y3), .val (.ref b1), .val (.ref b3), .unset, .unset, .unset, .unset, .unset] [])) _
    refine XS.aload X3.here hx rfl (hb hby at_20) rfl rfl ?_
    show Steps p.tables e below (T3.setTop (mkF m 22 #[.val (.int x0), .val (.int y0), .val (.int y1), .val (.int y2), .val (.int y3), .val (.ref b1), .val (.ref b3), .unset, .unset, .unset, .unset, .unset] [(.ref b3)])) _
    refine XS.iconst X3.here hx rfl (hb hby at_22) ?_
    show Steps p.tables e below (T3.setTop (mkF m 23 #[.val (.int x0), .val (.int y0), .val (.int y1), .val (.int y2), .val (.int y3), .val (.ref b1), .val (.ref b3), .unset, .unset, .unset, .unset, .unset] [(.int (0 : Int32)), (.ref b3)])) _
    refine X3.iaload hx (j := (0 : Int32)) (v := (.int x0)) Ar6.1 (State.isArrayOf_alike hZ.alike Ar6.2.1) Ar6.2.2 hin6 (H6.at hin6 rfl) (g := (mkF m 23 #[.val (.int x0), .val (.int y0), .val (.int y1), .val (.int y2), .val (.int y3), .val (.ref b1), .val (.ref b3), .unset, .unset, .unset, .unset, .unset] [(.int (0 : Int32)), (.ref b3)])) rfl rfl (hb hby at_23) _ ?_
    show Steps p.tables e below (T3.setTop (mkF m 24 #[.val (.int x0), .val (.int y0), .val (.int y1), .val (.int y2), .val (.int y3), .val (.ref b1), .val (.ref b3), .unset, .unset, .unset, .unset, .unset] [(.int x0)])) _
    refine XS.iloadN X3.here hx rfl (hb hby at_24) rfl ?_
    show Steps p.tables e below (T3.setTop (mkF m 25 #[.val (.int x0), .val (.int y0), .val (.int y1), .val (.int y2), .val (.int y3), .val (.ref b1), .val (.ref b3), .unset, .unset, .unset, .unset, .unset] [(.int x0), (.int x0)])) _
    refine XS.icmpYes X3.here hx rfl (pc0 := 25) (pc' := 30) rfl (hb hby at_25) rfl (teq (rfl : x0 = x0)).1 (by decide) (by decide) ?_
    show Steps p.tables e below (T3.setTop (mkF m 30 #[.val (.int x0), .val (.int y0), .val (.int y1), .val (.int y2), .val (.int y3), .val (.ref b1), .val (.ref b3), .unset, .unset, .unset, .unset, .unset] [])) _
    refine XS.iloadN X3.here hx rfl (hb hby at_30) rfl ?_
    show Steps p.tables e below (T3.setTop (mkF m 31 #[.val (.int x0), .val (.int y0), .val (.int y1), .val (.int y2), .val (.int y3), .val (.ref b1), .val (.ref b3), .unset, .unset, .unset, .unset, .unset] [(.int x0)])) _
    refine XS.iconst X3.here hx rfl (hb hby at_31) ?_
    show Steps p.tables e below (T3.setTop (mkF m 32 #[.val (.int x0), .val (.int y0), .val (.int y1), .val (.int y2), .val (.int y3), .val (.ref b1), .val (.ref b3), .unset, .unset, .unset, .unset, .unset] [(.int (3 : Int32)), (.int x0)])) _
    refine XS.iand X3.here hx rfl (hb hby at_32) rfl ?_
    show Steps p.tables e below (T3.setTop (mkF m 33 #[.val (.int x0), .val (.int y0), .val (.int y1), .val (.int y2), .val (.int y3), .val (.ref b1), .val (.ref b3), .unset, .unset, .unset, .unset, .unset] [(.int (x0 &&& (3 : Int32)))])) _
    refine XS.istore X3.here hx rfl (hb hby at_33) rfl (l' := #[.val (.int x0), .val (.int y0), .val (.int y1), .val (.int y2), .val (.int y3), .val (.ref b1), .val (.ref b3), .val (.int (x0 &&& (3 : Int32))), .unset, .unset, .unset, .unset]) rfl ?_
    show Steps p.tables e below (T3.setTop (mkF m 35 #[.val (.int x0), .val (.int y0), .val (.int y1), .val (.int y2), .val (.int y3), .val (.ref b1), .val (.ref b3), .val (.int (x0 &&& (3 : Int32))), .unset, .unset, .unset, .unset] [])) _
    refine XS.iconst X3.here hx rfl (hb hby at_35) ?_
    show Steps p.tables e below (T3.setTop (mkF m 36 #[.val (.int x0), .val (.int y0), .val (.int y1), .val (.int y2), .val (.int y3), .val (.ref b1), .val (.ref b3), .val (.int (x0 &&& (3 : Int32))), .unset, .unset, .unset, .unset] [(.int (4 : Int32))])) _
    refine st7 _ ?_
    show Steps p.tables e below (T7.setTop (mkF m 38 #[.val (.int x0), .val (.int y0), .val (.int y1), .val (.int y2), .val (.int y3), .val (.ref b1), .val (.ref b3), .val (.int (x0 &&& (3 : Int32))), .unset, .unset, .unset, .unset] [(.ref b7)])) _
    refine XS.astore X7.here hx rfl (hb hby at_38) rfl rfl (l' := #[.val (.int x0), .val (.int y0), .val (.int y1), .val (.int y2), .val (.int y3), .val (.ref b1), .val (.ref b3), .val (.int (x0 &&& (3 : Int32))), .val (.ref b7), .unset, .unset, .unset]) rfl ?_
    show Steps p.tables e below (T7.setTop (mkF m 40 #[.val (.int x0), .val (.int y0), .val (.int y1), .val (.int y2), .val (.int y3), .val (.ref b1), .val (.ref b3), .val (.int (x0 &&& (3 : Int32))), .val (.ref b7), .unset, .unset, .unset] [])) _
    refine XS.aload X7.here hx rfl (hb hby at_40) rfl rfl ?_
    show Steps p.tables e below (T7.setTop (mkF m 42 #[.val (.int x0), .val (.int y0), .val (.int y1), .val (.int y2), .val (.int y3), .val (.ref b1), .val (.ref b3), .val (.int (x0 &&& (3 : Int32))), .val (.ref b7), .unset, .unset, .unset] [(.ref b7)])) _
    refine XS.iconst X7.here hx rfl (hb hby at_42) ?_
    show Steps p.tables e below (T7.setTop (mkF m 43 #[.val (.int x0), .val (.int y0), .val (.int y1), .val (.int y2), .val (.int y3), .val (.ref b1), .val (.ref b3), .val (.int (x0 &&& (3 : Int32))), .val (.ref b7), .unset, .unset, .unset] [(.int (0 : Int32)), (.ref b7)])) _
    refine XS.iloadN X7.here hx rfl (hb hby at_43) rfl ?_
    show Steps p.tables e below (T7.setTop (mkF m 44 #[.val (.int x0), .val (.int y0), .val (.int y1), .val (.int y2), .val (.int y3), .val (.ref b1), .val (.ref b3), .val (.int (x0 &&& (3 : Int32))), .val (.ref b7), .unset, .unset, .unset] [(.int y0), (.int (0 : Int32)), (.ref b7)])) _
    refine st10 _ ?_
    show Steps p.tables e below (T10.setTop (mkF m 45 #[.val (.int x0), .val (.int y0), .val (.int y1), .val (.int y2), .val (.int y3), .val (.ref b1), .val (.ref b3), .val (.int (x0 &&& (3 : Int32))), .val (.ref b7), .unset, .unset, .unset] [])) _
    refine XS.aload X10.here hx rfl (hb hby at_45) rfl rfl ?_
    show Steps p.tables e below (T10.setTop (mkF m 47 #[.val (.int x0), .val (.int y0), .val (.int y1), .val (.int y2), .val (.int y3), .val (.ref b1), .val (.ref b3), .val (.int (x0 &&& (3 : Int32))), .val (.ref b7), .unset, .unset, .unset] [(.ref b7)])) _
    refine XS.iconst X10.here hx rfl (hb hby at_47) ?_
    show Steps p.tables e below (T10.setTop (mkF m 48 #[.val (.int x0), .val (.int y0), .val (.int y1), .val (.int y2), .val (.int y3), .val (.ref b1), .val (.ref b3), .val (.int (x0 &&& (3 : Int32))), .val (.ref b7), .unset, .unset, .unset] [(.int (1 : Int32)), (.ref b7)])) _
    refine XS.iloadN X10.here hx rfl (hb hby at_48) rfl ?_
    show Steps p.tables e below (T10.setTop (mkF m 49 #[.val (.int x0), .val (.int y0), .val (.int y1), .val (.int y2), .val (.int y3), .val (.ref b1), .val (.ref b3), .val (.int (x0 &&& (3 : Int32))), .val (.ref b7), .unset, .unset, .unset] [(.int y1), (.int (1 : Int32)), (.ref b7)])) _
    refine st13 _ ?_
    show Steps p.tables e below (T13.setTop (mkF m 50 #[.val (.int x0), .val (.int y0), .val (.int y1), .val (.int y2), .val (.int y3), .val (.ref b1), .val (.ref b3), .val (.int (x0 &&& (3 : Int32))), .val (.ref b7), .unset, .unset, .unset] [])) _
    refine XS.aload X13.here hx rfl (hb hby at_50) rfl rfl ?_
    show Steps p.tables e below (T13.setTop (mkF m 52 #[.val (.int x0), .val (.int y0), .val (.int y1), .val (.int y2), .val (.int y3), .val (.ref b1), .val (.ref b3), .val (.int (x0 &&& (3 : Int32))), .val (.ref b7), .unset, .unset, .unset] [(.ref b7)])) _
    refine XS.iconst X13.here hx rfl (hb hby at_52) ?_
    show Steps p.tables e below (T13.setTop (mkF m 53 #[.val (.int x0), .val (.int y0), .val (.int y1), .val (.int y2), .val (.int y3), .val (.ref b1), .val (.ref b3), .val (.int (x0 &&& (3 : Int32))), .val (.ref b7), .unset, .unset, .unset] [(.int (2 : Int32)), (.ref b7)])) _
    refine XS.iloadN X13.here hx rfl (hb hby at_53) rfl ?_
    show Steps p.tables e below (T13.setTop (mkF m 54 #[.val (.int x0), .val (.int y0), .val (.int y1), .val (.int y2), .val (.int y3), .val (.ref b1), .val (.ref b3), .val (.int (x0 &&& (3 : Int32))), .val (.ref b7), .unset, .unset, .unset] [(.int y2), (.int (2 : Int32)), (.ref b7)])) _
    refine st16 _ ?_
    show Steps p.tables e below (T16.setTop (mkF m 55 #[.val (.int x0), .val (.int y0), .val (.int y1), .val (.int y2), .val (.int y3), .val (.ref b1), .val (.ref b3), .val (.int (x0 &&& (3 : Int32))), .val (.ref b7), .unset, .unset, .unset] [])) _
    refine XS.aload X16.here hx rfl (hb hby at_55) rfl rfl ?_
    show Steps p.tables e below (T16.setTop (mkF m 57 #[.val (.int x0), .val (.int y0), .val (.int y1), .val (.int y2), .val (.int y3), .val (.ref b1), .val (.ref b3), .val (.int (x0 &&& (3 : Int32))), .val (.ref b7), .unset, .unset, .unset] [(.ref b7)])) _
    refine XS.iconst X16.here hx rfl (hb hby at_57) ?_
    show Steps p.tables e below (T16.setTop (mkF m 58 #[.val (.int x0), .val (.int y0), .val (.int y1), .val (.int y2), .val (.int y3), .val (.ref b1), .val (.ref b3), .val (.int (x0 &&& (3 : Int32))), .val (.ref b7), .unset, .unset, .unset] [(.int (3 : Int32)), (.ref b7)])) _
    refine XS.iload X16.here hx rfl (hb hby at_58) rfl ?_
    show Steps p.tables e below (T16.setTop (mkF m 60 #[.val (.int x0), .val (.int y0), .val (.int y1), .val (.int y2), .val (.int y3), .val (.ref b1), .val (.ref b3), .val (.int (x0 &&& (3 : Int32))), .val (.ref b7), .unset, .unset, .unset] [(.int y3), (.int (3 : Int32)), (.ref b7)])) _
    refine st19 _ ?_
    show Steps p.tables e below (T19.setTop (mkF m 61 #[.val (.int x0), .val (.int y0), .val (.int y1), .val (.int y2), .val (.int y3), .val (.ref b1), .val (.ref b3), .val (.int (x0 &&& (3 : Int32))), .val (.ref b7), .unset, .unset, .unset] [])) _
    refine XS.iload X19.here hx rfl (hb hby at_61) rfl ?_
    show Steps p.tables e below (T19.setTop (mkF m 63 #[.val (.int x0), .val (.int y0), .val (.int y1), .val (.int y2), .val (.int y3), .val (.ref b1), .val (.ref b3), .val (.int (x0 &&& (3 : Int32))), .val (.ref b7), .unset, .unset, .unset] [(.int (x0 &&& (3 : Int32)))])) _
    refine st21 _ ?_
    show Steps p.tables e below (T21.setTop (mkF m 66 #[.val (.int x0), .val (.int y0), .val (.int y1), .val (.int y2), .val (.int y3), .val (.ref b1), .val (.ref b3), .val (.int (x0 &&& (3 : Int32))), .val (.ref b7), .unset, .unset, .unset] [(.ref b21)])) _
    refine XS.astore X21.here hx rfl (hb hby at_66) rfl rfl (l' := #[.val (.int x0), .val (.int y0), .val (.int y1), .val (.int y2), .val (.int y3), .val (.ref b1), .val (.ref b3), .val (.int (x0 &&& (3 : Int32))), .val (.ref b7), .val (.ref b21), .unset, .unset]) rfl ?_
    show Steps p.tables e below (T21.setTop (mkF m 68 #[.val (.int x0), .val (.int y0), .val (.int y1), .val (.int y2), .val (.int y3), .val (.ref b1), .val (.ref b3), .val (.int (x0 &&& (3 : Int32))), .val (.ref b7), .val (.ref b21), .unset, .unset] [])) _
    refine XS.aload X21.here hx rfl (hb hby at_68) rfl rfl ?_
    show Steps p.tables e below (T21.setTop (mkF m 70 #[.val (.int x0), .val (.int y0), .val (.int y1), .val (.int y2), .val (.int y3), .val (.ref b1), .val (.ref b3), .val (.int (x0 &&& (3 : Int32))), .val (.ref b7), .val (.ref b21), .unset, .unset] [(.ref b21)])) _
    refine XS.aload X21.here hx rfl (hb hby at_70) rfl rfl ?_
    show Steps p.tables e below (T21.setTop (mkF m 72 #[.val (.int x0), .val (.int y0), .val (.int y1), .val (.int y2), .val (.int y3), .val (.ref b1), .val (.ref b3), .val (.int (x0 &&& (3 : Int32))), .val (.ref b7), .val (.ref b21), .unset, .unset] [(.ref b7), (.ref b21)])) _
    refine st23.trans ?_
    show Steps p.tables e below (T23.setTop (mkF m 75 #[.val (.int x0), .val (.int y0), .val (.int y1), .val (.int y2), .val (.int y3), .val (.ref b1), .val (.ref b3), .val (.int (x0 &&& (3 : Int32))), .val (.ref b7), .val (.ref b21), .unset, .unset] [(.long (z.toInt64))])) _
    refine XS.lstore X23.here hx rfl (hb hby at_75) rfl (l' := #[.val (.int x0), .val (.int y0), .val (.int y1), .val (.int y2), .val (.int y3), .val (.ref b1), .val (.ref b3), .val (.int (x0 &&& (3 : Int32))), .val (.ref b7), .val (.ref b21), .val (.long (z.toInt64)), .second]) rfl ?_
    show Steps p.tables e below (T23.setTop (mkF m 77 #[.val (.int x0), .val (.int y0), .val (.int y1), .val (.int y2), .val (.int y3), .val (.ref b1), .val (.ref b3), .val (.int (x0 &&& (3 : Int32))), .val (.ref b7), .val (.ref b21), .val (.long (z.toInt64)), .second] [])) _
    refine XS.lload X23.here hx rfl (hb hby at_77) rfl ?_
    show Steps p.tables e below (T23.setTop (mkF m 79 #[.val (.int x0), .val (.int y0), .val (.int y1), .val (.int y2), .val (.int y3), .val (.ref b1), .val (.ref b3), .val (.int (x0 &&& (3 : Int32))), .val (.ref b7), .val (.ref b21), .val (.long (z.toInt64)), .second] [(.long (z.toInt64))])) _
    refine XS.aload X23.here hx rfl (hb hby at_79) rfl rfl ?_
    show Steps p.tables e below (T23.setTop (mkF m 81 #[.val (.int x0), .val (.int y0), .val (.int y1), .val (.int y2), .val (.int y3), .val (.ref b1), .val (.ref b3), .val (.int (x0 &&& (3 : Int32))), .val (.ref b7), .val (.ref b21), .val (.long (z.toInt64)), .second] [(.ref b7), (.long (z.toInt64))])) _
    refine XS.iload X23.here hx rfl (hb hby at_81) rfl ?_
    show Steps p.tables e below (T23.setTop (mkF m 83 #[.val (.int x0), .val (.int y0), .val (.int y1), .val (.int y2), .val (.int y3), .val (.ref b1), .val (.ref b3), .val (.int (x0 &&& (3 : Int32))), .val (.ref b7), .val (.ref b21), .val (.long (z.toInt64)), .second] [(.int (x0 &&& (3 : Int32))), (.ref b7), (.long (z.toInt64))])) _
    refine X23.iaload hx (j := (x0 &&& (3 : Int32))) (v := (.int z)) (by rw [e23]; exact Ar24.1) (State.isArrayOf_alike hZ.alike Ar24.2.1) Ar24.2.2 hin24 (H24.at hin24 hz) (g := (mkF m 83 #[.val (.int x0), .val (.int y0), .val (.int y1), .val (.int y2), .val (.int y3), .val (.ref b1), .val (.ref b3), .val (.int (x0 &&& (3 : Int32))), .val (.ref b7), .val (.ref b21), .val (.long (z.toInt64)), .second] [(.int (x0 &&& (3 : Int32))), (.ref b7), (.long (z.toInt64))])) rfl rfl (hb hby at_83) _ ?_
    show Steps p.tables e below (T23.setTop (mkF m 84 #[.val (.int x0), .val (.int y0), .val (.int y1), .val (.int y2), .val (.int y3), .val (.ref b1), .val (.ref b3), .val (.int (x0 &&& (3 : Int32))), .val (.ref b7), .val (.ref b21), .val (.long (z.toInt64)), .second] [(.int z), (.long (z.toInt64))])) _
    refine XS.i2l X23.here hx rfl (hb hby at_84) rfl ?_
    show Steps p.tables e below (T23.setTop (mkF m 85 #[.val (.int x0), .val (.int y0), .val (.int y1), .val (.int y2), .val (.int y3), .val (.ref b1), .val (.ref b3), .val (.int (x0 &&& (3 : Int32))), .val (.ref b7), .val (.ref b21), .val (.long (z.toInt64)), .second] [(.long (z.toInt64)), (.long (z.toInt64))])) _
    refine XS.lcmp X23.here hx rfl (hb hby at_85) rfl ?_
    show Steps p.tables e below (T23.setTop (mkF m 86 #[.val (.int x0), .val (.int y0), .val (.int y1), .val (.int y2), .val (.int y3), .val (.ref b1), .val (.ref b3), .val (.int (x0 &&& (3 : Int32))), .val (.ref b7), .val (.ref b21), .val (.long (z.toInt64)), .second] [(.int (lcmpW (z.toInt64) (z.toInt64)))])) _
    refine XS.ifNo X23.here hx rfl (hb hby at_86) rfl ((if0 _ _).trans (teq ((lw_eq _ _).mpr (rfl : (z.toInt64) = (z.toInt64)))).2) ?_
    show Steps p.tables e below (T23.setTop (mkF m 89 #[.val (.int x0), .val (.int y0), .val (.int y1), .val (.int y2), .val (.int y3), .val (.ref b1), .val (.ref b3), .val (.int (x0 &&& (3 : Int32))), .val (.ref b7), .val (.ref b21), .val (.long (z.toInt64)), .second] [])) _
    refine XS.iconst X23.here hx rfl (hb hby at_89) ?_
    show Steps p.tables e below (T23.setTop (mkF m 90 #[.val (.int x0), .val (.int y0), .val (.int y1), .val (.int y2), .val (.int y3), .val (.ref b1), .val (.ref b3), .val (.int (x0 &&& (3 : Int32))), .val (.ref b7), .val (.ref b21), .val (.long (z.toInt64)), .second] [(.int (1 : Int32))])) _
    refine XS.goto X23.here hx rfl (pc0 := 90) (pc' := 94) rfl (hb hby at_90) (by decide) (by decide) ?_
    show Steps p.tables e below (T23.setTop (mkF m 94 #[.val (.int x0), .val (.int y0), .val (.int y1), .val (.int y2), .val (.int y3), .val (.ref b1), .val (.ref b3), .val (.int (x0 &&& (3 : Int32))), .val (.ref b7), .val (.ref b21), .val (.long (z.toInt64)), .second] [(.int (1 : Int32))])) _
    exact retN X23 hx (t := .boolean) Bd.returns (by simp) (hb hby at_94) hr
  · show own_Q_own_law Z x0 y0 y1 y2 y3 h0 n0 _ T23.heap _
    rw [e23]
    exact ⟨rfl, N23⟩
set_option maxRecDepth 65536 in
set_option maxHeartbeats 40000000 in
theorem own_comes_1 {Post : Tables → Env → Array Value → State → Outcome → State → Prop} (hpost : ∀ tb e args s v u, (limb_1_1.after args s (.returned v) u = true ∧ limb_1_2.after args s (.returned v) u = true ∧ True) → FrameEnd s (.returned v) u (Jvm.fieldLocs frame_1_writes args s ++ Jvm.arrayLocs frame_1_arrays args s ++ Jvm.staticLocs frame_1_statics s) 24 128 → Post tb e args s (.returned v) u) :
    ArmFor flags0 classFile x code maxLocals ret World_1 tables_1 room_1 Calls_1 rest_1 Pre_1 Post := by
  intro l hfl _ _ p e ha hc hk s m args below hf hA hF happ hP
  obtain ⟨hcalls, hrest, hpre⟩ := hP
  obtain ⟨-, -, -, hnamed, -, -, -, hat⟩ := (Spec.applies_iff hf).mp happ
  obtain ⟨hg, hn⟩ := and_e (Cond.before_iff.mp (show (Jvm.Cond.and given_1 narrow_1).before args s = true from hpre))
  obtain ⟨g1, g2⟩ := and_e hg
  obtain ⟨g3, g4⟩ := and_e g2
  obtain ⟨g5, g6⟩ := and_e g4
  obtain ⟨g7, g8⟩ := and_e g6
  obtain ⟨g9, g10⟩ := and_e g8
  obtain ⟨w0, w1, w2, w3, w4, rfl⟩ : ∃ w0 w1 w2 w3 w4 : Value, args = #[w0, w1, w2, w3, w4] := by
    have hs : args.size = 5 := by simpa [Cond.value, given_1] using g1
    obtain ⟨L⟩ := args
    match L, hs with
    | [w0, w1, w2, w3, w4], _ => exact ⟨w0, w1, w2, w3, w4, rfl⟩
  have hw := fun d (hd : d ∈ tables_1) => atoms_spec (ws := Jvm.Cond.code x code maxLocals ret :: tables_1) hat d (List.mem_cons_of_mem _ hd)
  have hfit : Fit s := fun {y c} hc i hi => by
    obtain ⟨ha, rfl⟩ := Array.getElem?_eq_some_iff.mp hc
    have q := List.all_eq_true.mp ((Array.all_eq_true_iff_forall_mem.mp hF) _ (Array.getElem_mem ha)) i (List.mem_range.mpr hi)
    simpa [Array.getElem?_eq_getElem hi] using q
  obtain ⟨i0, ei0⟩ := is_v g3
  obtain rfl : w0 = (.int i0) := Option.some.inj ei0
  obtain ⟨i1, ei1⟩ := is_v g5
  obtain rfl : w1 = (.int i1) := Option.some.inj ei1
  obtain ⟨i2, ei2⟩ := is_v g7
  obtain rfl : w2 = (.int i2) := Option.some.inj ei2
  obtain ⟨i3, ei3⟩ := is_v g9
  obtain rfl : w3 = (.int i3) := Option.some.inj ei3
  obtain ⟨i4, ei4⟩ := is_v g10
  obtain rfl : w4 = (.int i4) := Option.some.inj ei4
  obtain ⟨n, o, h1, h2, h3, _, L, rfl, ⟨rfl, N⟩, hq⟩ := own_law l s _ hw tables_1 i0 i1 i2 i3 i4  s.heap s.heap.size (Nat.le_refl _)  p e ha hc hk s m _ below hf ((Spec.applies_iff_loose hf).mp happ).1 ⟨rfl, State.Warmed39.refl s, rfl⟩ trivial
  refine ⟨n, _, h1, h2, h3, hpost _ _ _ _ _ _ ⟨Cond.after_iff.mpr rfl, Cond.after_iff.mpr (eq_i res_at (Term.int_eval (1)) rfl), trivial⟩ ⟨hq.1, hq.2.1, (hq.2.2.sift fun y hy => Or.inr (N y hy)).mono (by decide) (by decide)⟩⟩
theorem main_1_1 : Claimed_1_1 := own_comes_1 fun _ _ _ _ _ _ h hF => ⟨h.1, hF⟩
theorem main_1_2 : Claimed_1_2 := own_comes_1 fun _ _ _ _ _ _ h hF => ⟨h.2.1, hF⟩
end Jvm.Pilot.@@N@@
namespace Jvm.Pilot.@@N@@
open Jvm Jvm.ClassFile Sem Op Lib Jvm.Free Jvm.Stand Jvm.Pilot.@@N@@.Jvm.D
/-! MADE BY PROGRAM (witnessworld.py) out of the Statement's table words and the real class files: 11 classes; the members and pool entries that the words name. The judged class is class 1, her method 1. -/
namespace start1
open Jvm.ClassFile
def u (s : String) : CpInfo := .utf8 (stringToUtf16 s)
/-- a pool by its gaps: so many unusable entries, then the entry; so many at the end -/
def gap : Nat → List CpInfo → List CpInfo
  | 0, r => r
  | n + 1, r => .unusable :: gap n r
def poolList (es : List (Nat × CpInfo)) (last : Nat) : List CpInfo := es.foldr (fun e r => gap e.1 (e.2 :: r)) (gap last [])
def pool (es : List (Nat × CpInfo)) (last : Nat) : Array CpInfo := ⟨poolList es last⟩
def fileOf (pool : Array CpInfo) (this : Nat) (attrs : Array Attribute := #[]) (ms : Array MethodInfo := #[]) (fl : Nat := 33) (sup : Nat := 0) (ifs : Array Nat := #[]) (fds : Array FieldInfo := #[]) : ClassFile where
  minorVersion := 0
  majorVersion := 65
  constantPool := pool
  accessFlags := fl
  thisClass := this
  superClass := sup
  interfaces := ifs
  fields := fds
  methods := ms
  attributes := attrs
def plain (name : String) (sup : Option ClassId) : Class where
  name := name
  kind := .ordinary
  loader := none
  accessFlags := 33
  super := sup
  interfaces := #[]
  cf := none
  fields := #[]
  methods := #[]
  instanceTypes := #[]
  staticTypes := #[]
  resolved := #[]
  callSites := []
  init := .initialized
  statics := none
  mirror := none

def pool0 : Array CpInfo := pool [(5, u "<init>"), (0, u "()V"), (1, .class_ 10), (1, u "java/lang/Object"), (85, u "clone"), (0, u "()Ljava/lang/Object;")] 26

def k0c0 : Code := { maxStack := 0, maxLocals := 1, code := object_method_1_code, exceptionTable := #[], attributes := #[] }
def k0m0 : Method := { name := "<init>", desc := "()V", sig := { parameters := [], returnType := none }, accessFlags := 1, code := some k0c0 }
def k0m1 : Method := { name := "clone", desc := "()Ljava/lang/Object;", sig := { parameters := [], returnType := some (.object "java/lang/Object") }, accessFlags := 260, code := none }
/-- java/lang/Object -/
def k0 : Class := { plain "java/lang/Object" none with
  accessFlags := 33
  interfaces := #[]
  cf := some (fileOf pool0 8 #[] #[{ accessFlags := 1, nameIndex := 5, descriptorIndex := 6, attributes := #[] }, { accessFlags := 260, nameIndex := 96, descriptorIndex := 97, attributes := #[] }] 33 0 #[] #[])
  fields := #[]
  methods := #[k0m0, k0m1]
  instanceTypes := #[]
  staticTypes := #[]
  resolved := Array.replicate 124 none
  statics := none }

def pool1 : Array CpInfo := pool [(2, .class_ 4), (1, u "java/lang/Object"), (0, u "<init>"), (0, u "()V"), (0, .methodref 8 9), (0, .class_ 10), (0, .nameAndType 11 12), (0, u "com/example/antigonish/antigonish/TokenSum"), (0, u "tokens"), (0, u "(I)Lcom/example/antigonish/antigonish/TokenSum;"), (0, .methodref 8 14), (0, .nameAndType 15 16), (0, u "entries"), (0, u "()[I"), (0, .methodref 8 18), (0, .nameAndType 19 20), (0, u "value"), (0, u "([I)J"), (0, .class_ 22), (0, u "com/example/antigonish/antigonish/TokenSumTokensPinLaw"), (2, u "law"), (0, u "(IIIII)Z")] 5

def k1m0 : Method := { name := "<init>", desc := "()V", sig := { parameters := [], returnType := none }, accessFlags := 1, code := none }
def k1c1 : Code := { maxStack := 4, maxLocals := 12, code := code, exceptionTable := #[], attributes := #[] }
def k1m1 : Method := { name := "law", desc := "(IIIII)Z", sig := { parameters := [.int, .int, .int, .int, .int], returnType := some .boolean }, accessFlags := 9, code := some k1c1 }
/-- com/example/antigonish/antigonish/TokenSumTokensPinLaw -/
def k1 : Class := { plain "com/example/antigonish/antigonish/TokenSumTokensPinLaw" (some 0) with
  accessFlags := 49
  interfaces := #[]
  cf := some (fileOf pool1 21 #[] #[{ accessFlags := 1, nameIndex := 5, descriptorIndex := 6, attributes := #[] }, { accessFlags := 9, nameIndex := 25, descriptorIndex := 26, attributes := #[] }] 49 2 #[] #[])
  fields := #[]
  methods := #[k1m0, k1m1]
  instanceTypes := #[]
  staticTypes := #[]
  resolved := Array.replicate 32 none
  statics := none }

def pool2 : Array CpInfo := pool [(1, .methodref 2 3), (0, .class_ 4), (0, .nameAndType 5 6), (0, u "java/lang/Object"), (0, u "<init>"), (0, u "()V"), (0, .fieldref 8 9), (0, .class_ 10), (0, .nameAndType 11 12), (0, u "com/example/antigonish/antigonish/TokenSum"), (0, u "_constant"), (0, u "J"), (0, .fieldref 8 14), (0, .nameAndType 15 16), (0, u "_places"), (0, u "[I"), (0, .fieldref 8 18), (0, .nameAndType 19 20), (0, u "_weights"), (0, u "[J"), (19, .methodref 8 41), (0, .nameAndType 5 42), (0, u "(J[I[J)V"), (4, .methodref 48 49), (0, .class_ 16), (0, .nameAndType 50 51), (0, u "clone"), (0, u "()Ljava/lang/Object;"), (60, u "MAX_WEIGHTS"), (1, u "MAX_CONSTANT"), (5, u "tokens"), (0, u "(I)Lcom/example/antigonish/antigonish/TokenSum;"), (3, u "entries"), (0, u "()[I"), (0, u "value"), (0, u "([I)J")] 22

def k2c0 : Code := { maxStack := 3, maxLocals := 5, code := prog_66_method_1_code, exceptionTable := #[], attributes := #[] }
def k2m0 : Method := { name := "<init>", desc := "(J[I[J)V", sig := { parameters := [.long, (.array .int), (.array .long)], returnType := none }, accessFlags := 2, code := some k2c0 }
def k2c1 : Code := { maxStack := 10, maxLocals := 1, code := prog_66_method_3_code, exceptionTable := #[], attributes := #[] }
def k2m1 : Method := { name := "tokens", desc := "(I)Lcom/example/antigonish/antigonish/TokenSum;", sig := { parameters := [.int], returnType := some (.object "com/example/antigonish/antigonish/TokenSum") }, accessFlags := 8, code := some k2c1 }
def k2c2 : Code := { maxStack := 1, maxLocals := 1, code := prog_66_method_6_code, exceptionTable := #[], attributes := #[] }
def k2m2 : Method := { name := "entries", desc := "()[I", sig := { parameters := [], returnType := some (.array .int) }, accessFlags := 0, code := some k2c2 }
def k2c3 : Code := { maxStack := 7, maxLocals := 5, code := prog_66_method_7_code, exceptionTable := #[], attributes := #[] }
def k2m3 : Method := { name := "value", desc := "([I)J", sig := { parameters := [(.array .int)], returnType := some .long }, accessFlags := 0, code := some k2c3 }
/-- com/example/antigonish/antigonish/TokenSum -/
def k2 : Class := { plain "com/example/antigonish/antigonish/TokenSum" (some 0) with
  accessFlags := 48
  interfaces := #[]
  cf := some (fileOf pool2 8 #[] #[{ accessFlags := 2, nameIndex := 5, descriptorIndex := 42, attributes := #[] }, { accessFlags := 8, nameIndex := 120, descriptorIndex := 121, attributes := #[] }, { accessFlags := 0, nameIndex := 125, descriptorIndex := 126, attributes := #[] }, { accessFlags := 0, nameIndex := 127, descriptorIndex := 128, attributes := #[] }] 48 2 #[] #[{ accessFlags := 24, nameIndex := 112, descriptorIndex := 12, attributes := #[] }, { accessFlags := 24, nameIndex := 114, descriptorIndex := 12, attributes := #[] }, { accessFlags := 18, nameIndex := 11, descriptorIndex := 12, attributes := #[] }, { accessFlags := 18, nameIndex := 15, descriptorIndex := 16, attributes := #[] }, { accessFlags := 18, nameIndex := 19, descriptorIndex := 20, attributes := #[] }])
  fields := #[{ name := "MAX_WEIGHTS", type := .long, accessFlags := 24, slot := 0, constantValue := 0 }, { name := "MAX_CONSTANT", type := .long, accessFlags := 24, slot := 1, constantValue := 0 }, { name := "_constant", type := .long, accessFlags := 18, slot := 0, constantValue := 0 }, { name := "_places", type := (.array .int), accessFlags := 18, slot := 1, constantValue := 0 }, { name := "_weights", type := (.array .long), accessFlags := 18, slot := 2, constantValue := 0 }]
  methods := #[k2m0, k2m1, k2m2, k2m3]
  instanceTypes := #[.long, (.array .int), (.array .long)]
  staticTypes := #[.long, .long]
  resolved := Array.replicate 151 none
  statics := none }

def pool3 : Array CpInfo := pool [(1, .class_ 2), (0, u "java/lang/Cloneable"), (0, .class_ 4), (0, u "java/lang/Object")] 2

/-- java/lang/Cloneable -/
def k3 : Class := { plain "java/lang/Cloneable" (some 0) with
  accessFlags := 1537
  interfaces := #[]
  cf := some (fileOf pool3 1 #[] #[] 1537 3 #[] #[])
  fields := #[]
  methods := #[]
  instanceTypes := #[]
  staticTypes := #[]
  resolved := Array.replicate 7 none
  statics := none }

def pool4 : Array CpInfo := pool [(1, u "java/io/Serializable"), (0, .class_ 1), (0, u "java/lang/Object"), (0, .class_ 3)] 3

/-- java/io/Serializable -/
def k4 : Class := { plain "java/io/Serializable" (some 0) with
  accessFlags := 1537
  interfaces := #[]
  cf := some (fileOf pool4 2 #[] #[] 1537 4 #[] #[])
  fields := #[]
  methods := #[]
  instanceTypes := #[]
  staticTypes := #[]
  resolved := Array.replicate 8 none
  statics := none }

/-- the primitive byte -/
def k5 : Class := { plain "byte" none with kind := .primitive 'B', accessFlags := 0x411 }
/-- [B -/
def k6 : Class := { plain "[B" (some 0) with kind := .array 5 .byte, interfaces := #[3, 4], accessFlags := 1041 }

/-- the primitive int -/
def k7 : Class := { plain "int" none with kind := .primitive 'I', accessFlags := 0x411 }
/-- [I -/
def k8 : Class := { plain "[I" (some 0) with kind := .array 7 .int, interfaces := #[3, 4], accessFlags := 1041 }

/-- the primitive long -/
def k9 : Class := { plain "long" none with kind := .primitive 'J', accessFlags := 0x411 }
/-- [J -/
def k10 : Class := { plain "[J" (some 0) with kind := .array 9 .long, interfaces := #[3, 4], accessFlags := 1041 }

def heap : Heap := #[]
def classes : Array Class := #[k0, k1, k2, k3, k4, k5, k6, k7, k8, k9, k10]
def interned : List (Array UInt16 × Addr) := []
def slotsUsed : Nat := 0
def theMethod : MethodId := ⟨1, 1⟩
def args0 : Array Value := #[.int 77, .int 9, .int 1, .int 2, .int 3]
def aboutOver (below : List Frame) : State where
  vm := { classes := classes, interned := interned.toArray }
  heap := heap
  slotsUsed := slotsUsed
  threads := #[{ frames := .invoking theMethod args0 :: below }]
def below0 : List Frame := [.native { method := ⟨0, 0⟩, args := #[] }]
def about1 : State := aboutOver below0
def p0 : Program := .bare "" "" ""
def e0 : Env := launch0.env 0 0 0
theorem w_frames : about1.frames = Frame.invoking theMethod args0 :: below0 := rfl
set_option maxRecDepth 65536 in
theorem w_args : argsFit about1.vm theMethod args0 = true := by decide +kernel
set_option maxRecDepth 65536 in
theorem w_heap : heapFits about1 = true := by decide +kernel
set_option maxRecDepth 65536 in
theorem w_runnable : about1.curStatus? = some .runnable := by decide +kernel
set_option maxRecDepth 65536 in
theorem w_alone : about1.alone = true := by decide +kernel
set_option maxRecDepth 65536 in
theorem w_named : about1.methodNamed? x = some theMethod := by decide +kernel
set_option maxRecDepth 65536 in
theorem w_hears : about1.hears theMethod below0 = true := by decide +kernel
set_option maxRecDepth 65536 in
theorem w_ripe : about1.ripe theMethod args0 below0 = true := by decide +kernel
theorem w_running : about1.status = .running := rfl
set_option maxRecDepth 65536 in
theorem w_room : about1.hasRoom e0.platform room_1 = true :=
  launch0.hasRoom_least _ room_1 (by decide +kernel) (by decide +kernel) (by decide +kernel) (by decide +kernel) (by decide +kernel) (by decide +kernel)
theorem allAtoms_all (ts : List Jvm.Cond) (a : Array Jvm.Value) (st : Jvm.State) : (allAtoms ts).before a st = ts.all (fun c => c.before a st) := by
  induction ts with
  | nil => rfl
  | cons c t ih =>
    show (Jvm.Cond.and c (allAtoms t)).before a st = _
    rw [Jvm.Cond.before_and, ih, List.all_cons]
def words1 : List Jvm.Cond := Jvm.Cond.code x code maxLocals ret :: tables_1
/-- a 'code' word, met by the world's own term for the bytes: nothing is compared byte by byte -/
theorem code_word {y : MethodName} {bytes : ByteArray} {mx : Nat} {rt : Option FieldType} {a : Array Value} {s : State} {m : MethodId} {meth : Method} {c : Code} (h1 : s.methodNamed? y = some m) (h2 : s.vm.method? m = some meth) (h3 : meth.code = some c) (h4 : c.code = bytes)
    (h5 : (c.maxLocals == mx && c.exceptionTable.isEmpty && decide (c.maxStack ≤ mostOperands) && decide (meth.sig.returnType = rt) && !meth.locks && decide (parseMethodDescriptor y.desc = some meth.sig)) = true) : (Jvm.Cond.code y bytes mx rt).before a s = true := by
  simp only [Bool.and_eq_true, beq_iff_eq, Bool.not_eq_true', decide_eq_true_eq] at h5
  obtain ⟨⟨⟨⟨⟨g1, g2⟩, g3⟩, g4⟩, g5⟩, g6⟩ := h5
  simp [Cond.before, Cond.holds, Cond.value, h1, h2, h3, h4, g1, g2, g3, g4, g5, g6]
def isCode : Jvm.Cond → Bool
  | .code _ _ _ _ => true
  | _ => false
theorem all_split {L : List Jvm.Cond} {P : Jvm.Cond → Bool} (h1 : L.all (fun c => isCode c || P c) = true) (h2 : ∀ c ∈ L.filter isCode, P c = true) : L.all P = true := by
  refine List.all_eq_true.mpr fun c hc => ?_
  have h := List.all_eq_true.mp h1 c hc
  rcases Bool.eq_false_or_eq_true (isCode c) with hi | hi
  · exact h2 c (List.mem_filter.mpr ⟨hc, hi⟩)
  · simpa [hi] using h
set_option maxRecDepth 65536 in
theorem w_c0 : (Jvm.Cond.code x code maxLocals ret).before args0 about1 = true := code_word (m := ⟨1, 1⟩) (meth := k1m1) (c := k1c1) (by decide +kernel) rfl rfl rfl (by decide +kernel)
set_option maxRecDepth 65536 in
theorem w_c1 : (Jvm.Cond.code ({ cls := "com/example/antigonish/antigonish/TokenSum", name := "tokens", desc := "(I)Lcom/example/antigonish/antigonish/TokenSum;" } : Jvm.MethodName) prog_66_method_3_code (1 : Nat) (Option.some (Jvm.ClassFile.FieldType.object "com/example/antigonish/antigonish/TokenSum"))).before args0 about1 = true := code_word (m := ⟨2, 1⟩) (meth := k2m1) (c := k2c1) (by decide +kernel) rfl rfl rfl (by decide +kernel)
set_option maxRecDepth 65536 in
theorem w_c2 : (Jvm.Cond.code ({ cls := "com/example/antigonish/antigonish/TokenSum", name := "<init>", desc := "(J[I[J)V" } : Jvm.MethodName) prog_66_method_1_code (5 : Nat) (Option.none : Option Jvm.ClassFile.FieldType)).before args0 about1 = true := code_word (m := ⟨2, 0⟩) (meth := k2m0) (c := k2c0) (by decide +kernel) rfl rfl rfl (by decide +kernel)
set_option maxRecDepth 65536 in
theorem w_c3 : (Jvm.Cond.code ({ cls := "java/lang/Object", name := "<init>", desc := "()V" } : Jvm.MethodName) object_method_1_code (1 : Nat) (Option.none : Option Jvm.ClassFile.FieldType)).before args0 about1 = true := code_word (m := ⟨0, 0⟩) (meth := k0m0) (c := k0c0) (by decide +kernel) rfl rfl rfl (by decide +kernel)
set_option maxRecDepth 65536 in
theorem w_c4 : (Jvm.Cond.code ({ cls := "com/example/antigonish/antigonish/TokenSum", name := "entries", desc := "()[I" } : Jvm.MethodName) prog_66_method_6_code (1 : Nat) (Option.some (Jvm.ClassFile.FieldType.array Jvm.ClassFile.FieldType.int))).before args0 about1 = true := code_word (m := ⟨2, 2⟩) (meth := k2m2) (c := k2c2) (by decide +kernel) rfl rfl rfl (by decide +kernel)
set_option maxRecDepth 65536 in
theorem w_c5 : (Jvm.Cond.code ({ cls := "com/example/antigonish/antigonish/TokenSum", name := "value", desc := "([I)J" } : Jvm.MethodName) prog_66_method_7_code (5 : Nat) (Option.some Jvm.ClassFile.FieldType.long)).before args0 about1 = true := code_word (m := ⟨2, 3⟩) (meth := k2m3) (c := k2c3) (by decide +kernel) rfl rfl rfl (by decide +kernel)
def codes1 : List Jvm.Cond := [Jvm.Cond.code x code maxLocals ret, Jvm.Cond.code ({ cls := "com/example/antigonish/antigonish/TokenSum", name := "tokens", desc := "(I)Lcom/example/antigonish/antigonish/TokenSum;" } : Jvm.MethodName) prog_66_method_3_code (1 : Nat) (Option.some (Jvm.ClassFile.FieldType.object "com/example/antigonish/antigonish/TokenSum")), Jvm.Cond.code ({ cls := "com/example/antigonish/antigonish/TokenSum", name := "<init>", desc := "(J[I[J)V" } : Jvm.MethodName) prog_66_method_1_code (5 : Nat) (Option.none : Option Jvm.ClassFile.FieldType), Jvm.Cond.code ({ cls := "java/lang/Object", name := "<init>", desc := "()V" } : Jvm.MethodName) object_method_1_code (1 : Nat) (Option.none : Option Jvm.ClassFile.FieldType), Jvm.Cond.code ({ cls := "com/example/antigonish/antigonish/TokenSum", name := "entries", desc := "()[I" } : Jvm.MethodName) prog_66_method_6_code (1 : Nat) (Option.some (Jvm.ClassFile.FieldType.array Jvm.ClassFile.FieldType.int)), Jvm.Cond.code ({ cls := "com/example/antigonish/antigonish/TokenSum", name := "value", desc := "([I)J" } : Jvm.MethodName) prog_66_method_7_code (5 : Nat) (Option.some Jvm.ClassFile.FieldType.long)]
set_option maxRecDepth 65536 in
theorem codes_eq : words1.filter isCode = codes1 := rfl
theorem w_codes : ∀ c ∈ words1.filter isCode, c.before args0 about1 = true := by
  rw [codes_eq]
  intro c hc
  simp only [codes1, List.mem_cons, List.not_mem_nil, or_false] at hc
  rcases hc with rfl | rfl | rfl | rfl | rfl | rfl
  · exact w_c0
  · exact w_c1
  · exact w_c2
  · exact w_c3
  · exact w_c4
  · exact w_c5
set_option maxRecDepth 65536 in
theorem w_t1 : (words1.take 24).all (fun c => isCode c || c.before args0 about1) = true := by decide +kernel
set_option maxRecDepth 65536 in
theorem w_t2 : (words1.drop 24).all (fun c => isCode c || c.before args0 about1) = true := by decide +kernel
theorem w_tables : (allAtoms (Jvm.Cond.code x code maxLocals ret :: tables_1)).before args0 about1 = true := by
  rw [allAtoms_all]
  show words1.all (fun c => c.before args0 about1) = true
  refine all_split ?_ w_codes
  rw [← List.take_append_drop 24 words1, List.all_append, w_t1, w_t2]
  rfl
set_option maxRecDepth 65536 in
theorem w_case : (Jvm.Cond.and given_1 narrow_1).before args0 about1 = true := by decide +kernel
theorem w_applies : (headSpec (Jvm.Cond.code x code maxLocals ret :: tables_1) room_1).applies x e0.platform about1 = true :=
  (Spec.applies_iff w_frames).mpr ⟨w_running, w_runnable, w_alone, w_named, w_hears, w_ripe, w_room, w_tables⟩
theorem atStart : AtStart classFile x code maxLocals ret World_1 tables_1 room_1 Calls_1 rest_1 Pre_1 launch0 p0 e0 about1 theMethod args0 below0 :=
  ⟨lists_1, trivial, launch0.admits_env _ _ _, launch0.least_env, fairChoices_fair.cas, fairChoices_fair.clock, w_frames, w_args, w_heap, w_applies, trivial, trivial, w_case⟩
end start1
theorem witness_1 : WitnessClaimed_1 := ⟨start1.p0, start1.e0, start1.about1, start1.theMethod, start1.args0, start1.below0, start1.atStart⟩
end Jvm.Pilot.@@N@@
