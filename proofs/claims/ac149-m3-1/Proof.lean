import JvmDerived
import JvmDerived.Pilot.@@N@@Statement
import JvmDerived.Pilot.@@N@@Code
set_option linter.unusedVariables false
set_option linter.unusedSimpArgs false
namespace Jvm.RoadKit
open Sem ClassFile Op Lib Jvm.Stand Jvm.Free Jvm.LawKit
section New
variable {p : Program} {l : Launch} {e : Env} {R : Room} {s : State} {m : MethodId} {args : Array Value} {below : List Frame} {meth : Method} {c : Code} {T : State} {locs : List Loc} {cells slots : Nat}
theorem retI (X : Stand p l e R s m args below meth c T locs cells slots) (hx : p.tables.exec = Jvm.exec) {pc : Nat} {Ls : Array Slot} {z : Int32} {rest : List Value} (hret : meth.sig.returnType = some .int) (hd : decode c.code pc = .ok (.ireturn, 1)) {fs : List Frame}
    (hl : ∀ (f : JFrame) (acts : List Action), f.method = m → f.locked = none → f.entered = [] → (doReturn e (T.setTop f) acts (some (.int z))).1 = T.setFrames fs) : Steps p.tables e below (T.setTop (mkF m pc Ls (.int z :: rest))) (T.setFrames fs) := by
  have hm' : T.vm.method? m = some meth := X.method'
  have hn : narrow .int (.int z) = .int z := rfl
  show Steps p.tables e below (T.setTop { method := m, pc := pc, locals := Ls, stack := _ :: rest, locked := none }) _
  jvm_step X.here [X.here.top, hx, hd, hm', hret, hn]
  first | (intro acts; rw [hl _ acts rfl rfl rfl]) | rw [hl _ _ rfl rfl rfl]
  exact Steps.refl _
end New
end Jvm.RoadKit
namespace Jvm.Pilot.@@N@@
open Jvm Jvm.ClassFile Sem Op Lib Jvm.Free Jvm.Stand Jvm.LawKit Jvm.RoadKit Bundle Jvm.Pilot.@@N@@.Jvm.D
theorem own_nb {P : Prop} [Decidable P] : nar .boolean (if P then (1 : Int32) else (0 : Int32)) = if P then (1 : Int32) else (0 : Int32) := by split <;> rfl
theorem own_nb2 {z : Int32} (h : z = 0 ∨ z = 1) : nar .boolean z = z := by rcases h with rfl | rfl <;> rfl
theorem own_01 {P : Prop} [Decidable P] : (if P then (1 : Int32) else (0 : Int32)) = 0 ∨ (if P then (1 : Int32) else (0 : Int32)) = 1 := by split <;> simp
theorem own_iv {a b : Int32} (h : a = b) : some (Value.int a) = some (Value.int b) := by rw [h]
theorem own_lv {a b : Int64} (h : a = b) : some (Value.long a) = some (Value.long b) := by rw [h]
theorem own_selP {args : Array Value} {s : State} {y : MethodName} {n : Nat} (hi : (Jvm.Cond.instantiable y.cls n).before args s = true) (hp : (Jvm.Cond.privateMethod y).before args s = true) (hm : (Jvm.Cond.instanceMethod y).before args s = true) (hy : y.cls ≠ "java/lang/invoke/MethodHandle" ∧ y.cls ≠ "java/lang/invoke/VarHandle") : (Jvm.Cond.selects y.cls y y).before args s = true := by
  obtain ⟨c, k, h1, h2, -, h4, -⟩ := Cond.instantiable_spec hi
  exact Jvm.Stand.selects_self_of_private h1 h2 (by simp only [Bool.or_eq_false_iff] at h4; exact h4.1) (Cond.privateMethod_at hp) hm hy
theorem own_d1_0 : decode prog_101_method_1_code 0 = .ok (.aload_n 0, 1) := by decide +kernel
theorem own_d1_1 : decode prog_101_method_1_code 1 = .ok (.invokespecial 1, 3) := by decide +kernel
theorem own_d1_4 : decode prog_101_method_1_code 4 = .ok (.aload_n 0, 1) := by decide +kernel
theorem own_d1_5 : decode prog_101_method_1_code 5 = .ok (.iconst 0, 1) := by decide +kernel
theorem own_d1_6 : decode prog_101_method_1_code 6 = .ok (.newarray .long, 2) := by decide +kernel
theorem own_d1_8 : decode prog_101_method_1_code 8 = .ok (.putfield 7, 3) := by decide +kernel
theorem own_d1_11 : decode prog_101_method_1_code 11 = .ok (.aload_n 0, 1) := by decide +kernel
theorem own_d1_12 : decode prog_101_method_1_code 12 = .ok (.iconst 0, 1) := by decide +kernel
theorem own_d1_13 : decode prog_101_method_1_code 13 = .ok (.newarray .long, 2) := by decide +kernel
theorem own_d1_15 : decode prog_101_method_1_code 15 = .ok (.putfield 13, 3) := by decide +kernel
theorem own_d1_18 : decode prog_101_method_1_code 18 = .ok (.aload_n 0, 1) := by decide +kernel
theorem own_d1_19 : decode prog_101_method_1_code 19 = .ok (.iconst 0, 1) := by decide +kernel
theorem own_d1_20 : decode prog_101_method_1_code 20 = .ok (.newarray .long, 2) := by decide +kernel
theorem own_d1_22 : decode prog_101_method_1_code 22 = .ok (.putfield 16, 3) := by decide +kernel
theorem own_d1_25 : decode prog_101_method_1_code 25 = .ok (.aload_n 0, 1) := by decide +kernel
theorem own_d1_26 : decode prog_101_method_1_code 26 = .ok (.iconst 0, 1) := by decide +kernel
theorem own_d1_27 : decode prog_101_method_1_code 27 = .ok (.newarray .long, 2) := by decide +kernel
theorem own_d1_29 : decode prog_101_method_1_code 29 = .ok (.putfield 19, 3) := by decide +kernel
theorem own_d1_32 : decode prog_101_method_1_code 32 = .ok (.aload_n 0, 1) := by decide +kernel
theorem own_d1_33 : decode prog_101_method_1_code 33 = .ok (.iconst 0, 1) := by decide +kernel
theorem own_d1_34 : decode prog_101_method_1_code 34 = .ok (.newarray .long, 2) := by decide +kernel
theorem own_d1_36 : decode prog_101_method_1_code 36 = .ok (.putfield 22, 3) := by decide +kernel
theorem own_d1_39 : decode prog_101_method_1_code 39 = .ok (.aload_n 0, 1) := by decide +kernel
theorem own_d1_40 : decode prog_101_method_1_code 40 = .ok (.iconst 0, 1) := by decide +kernel
theorem own_d1_41 : decode prog_101_method_1_code 41 = .ok (.newarray .int, 2) := by decide +kernel
theorem own_d1_43 : decode prog_101_method_1_code 43 = .ok (.putfield 25, 3) := by decide +kernel
theorem own_d1_46 : decode prog_101_method_1_code 46 = .ok (.aload_n 0, 1) := by decide +kernel
theorem own_d1_47 : decode prog_101_method_1_code 47 = .ok (.iconst 0, 1) := by decide +kernel
theorem own_d1_48 : decode prog_101_method_1_code 48 = .ok (.newarray .int, 2) := by decide +kernel
theorem own_d1_50 : decode prog_101_method_1_code 50 = .ok (.putfield 29, 3) := by decide +kernel
theorem own_d1_53 : decode prog_101_method_1_code 53 = .ok (.aload_n 0, 1) := by decide +kernel
theorem own_d1_54 : decode prog_101_method_1_code 54 = .ok (.bipush 16, 2) := by decide +kernel
theorem own_d1_56 : decode prog_101_method_1_code 56 = .ok (.newarray .long, 2) := by decide +kernel
theorem own_d1_58 : decode prog_101_method_1_code 58 = .ok (.putfield 32, 3) := by decide +kernel
theorem own_d1_61 : decode prog_101_method_1_code 61 = .ok (.aload_n 0, 1) := by decide +kernel
theorem own_d1_62 : decode prog_101_method_1_code 62 = .ok (.bipush 16, 2) := by decide +kernel
theorem own_d1_64 : decode prog_101_method_1_code 64 = .ok (.newarray .int, 2) := by decide +kernel
theorem own_d1_66 : decode prog_101_method_1_code 66 = .ok (.putfield 35, 3) := by decide +kernel
theorem own_d1_69 : decode prog_101_method_1_code 69 = .ok (.aload_n 0, 1) := by decide +kernel
theorem own_d1_70 : decode prog_101_method_1_code 70 = .ok (.iconst 0, 1) := by decide +kernel
theorem own_d1_71 : decode prog_101_method_1_code 71 = .ok (.newarray .int, 2) := by decide +kernel
theorem own_d1_73 : decode prog_101_method_1_code 73 = .ok (.putfield 38, 3) := by decide +kernel
theorem own_d1_76 : decode prog_101_method_1_code 76 = .ok (.return_, 1) := by decide +kernel
theorem own_pn0 : plainName "com/example/synclattice/synclattice/sync/StatePairs" = true := by first | (simp [plainName, overriddenIn]; done) | decide +kernel
theorem own_ef1 (m : MethodId) (x0 : Addr) : entryFrame m #[(.ref x0)] 1 = mkF m 0 #[.val (.ref x0)] [] := by first | (simp [entryFrame, mkF, argsToLocals, Value.category]; done) | rfl
def own_Q_own_init (Z : State) (a : Addr) (h0 : Heap) (n0 : Nat) (v : Option Value) (h : Heap) (L : List Loc) : Prop := ∃ (p0 p1 p2 p3 p4 p5 p6 p7 : Addr) (k_0 k_1 k_2 k_3 k_4 k_5 k_6 k_7 : ClassId), v = none ∧ Fr n0 L ∧ Keep h0 h [a] ∧ Exa Z h a "com/example/synclattice/synclattice/sync/StatePairs" ∧ Fld Z h a "com/example/synclattice/synclattice/sync/StatePairs" "positives" "[J" (.ref p0) ∧ Fld Z h a "com/example/synclattice/synclattice/sync/StatePairs" "negatives" "[J" (.ref p1) ∧ Fld Z h a "com/example/synclattice/synclattice/sync/StatePairs" "passes" "[J" (.ref p2) ∧ Fld Z h a "com/example/synclattice/synclattice/sync/StatePairs" "firstPositives" "[J" (.ref p3) ∧ Fld Z h a "com/example/synclattice/synclattice/sync/StatePairs" "firstNegatives" "[J" (.ref p4) ∧ Fld Z h a "com/example/synclattice/synclattice/sync/StatePairs" "sharedStateOf" "[I" (.ref p5) ∧ Fld Z h a "com/example/synclattice/synclattice/sync/StatePairs" "ownStateOf" "[I" (.ref p6) ∧ Fld Z h a "com/example/synclattice/synclattice/sync/StatePairs" "slotOf" "[I" (.ref p7) ∧ Fld Z h a "com/example/synclattice/synclattice/sync/StatePairs" "sharedStates" "I" (.int (0 : Int32)) ∧ Fld Z h a "com/example/synclattice/synclattice/sync/StatePairs" "count" "I" (.int (0 : Int32)) ∧ Arv Z h p0 k_0 .long (0 : Int32) [] (.long (0 : Int64)) ∧ Arv Z h p1 k_1 .long (0 : Int32) [] (.long (0 : Int64)) ∧ Arv Z h p2 k_2 .long (0 : Int32) [] (.long (0 : Int64)) ∧ Arv Z h p3 k_3 .long (0 : Int32) [] (.long (0 : Int64)) ∧ Arv Z h p4 k_4 .long (0 : Int32) [] (.long (0 : Int64)) ∧ Arv Z h p5 k_5 .int (0 : Int32) [] (.int (0 : Int32)) ∧ Arv Z h p6 k_6 .int (0 : Int32) [] (.int (0 : Int32)) ∧ Arv Z h p7 k_7 .int (0 : Int32) [] (.int (0 : Int32))
set_option maxRecDepth 65536 in
set_option maxHeartbeats 40000000 in
theorem own_init (l : Launch) (Z : State) (a0 : Array Value) (hw : ∀ d ∈ tables_1, d.before a0 Z = true) (ws : List Jvm.Cond) (a : Addr) (h0 : Heap) (n0 : Nat) (Z0 : n0 ≤ h0.size) (E : Exa Z h0 a "com/example/synclattice/synclattice/sync/StatePairs") (F_positives : Fld Z h0 a "com/example/synclattice/synclattice/sync/StatePairs" "positives" "[J" .null) (F_negatives : Fld Z h0 a "com/example/synclattice/synclattice/sync/StatePairs" "negatives" "[J" .null) (F_passes : Fld Z h0 a "com/example/synclattice/synclattice/sync/StatePairs" "passes" "[J" .null) (F_firstPositives : Fld Z h0 a "com/example/synclattice/synclattice/sync/StatePairs" "firstPositives" "[J" .null) (F_firstNegatives : Fld Z h0 a "com/example/synclattice/synclattice/sync/StatePairs" "firstNegatives" "[J" .null) (F_sharedStateOf : Fld Z h0 a "com/example/synclattice/synclattice/sync/StatePairs" "sharedStateOf" "[I" .null) (F_ownStateOf : Fld Z h0 a "com/example/synclattice/synclattice/sync/StatePairs" "ownStateOf" "[I" .null) (F_slotOf : Fld Z h0 a "com/example/synclattice/synclattice/sync/StatePairs" "slotOf" "[I" .null) (F_keys : Fld Z h0 a "com/example/synclattice/synclattice/sync/StatePairs" "keys" "[J" .null) (F_numbers : Fld Z h0 a "com/example/synclattice/synclattice/sync/StatePairs" "numbers" "[I" .null) (F_sharedStates : Fld Z h0 a "com/example/synclattice/synclattice/sync/StatePairs" "sharedStates" "I" (.int (0 : Int32))) (F_count : Fld Z h0 a "com/example/synclattice/synclattice/sync/StatePairs" "count" "I" (.int (0 : Int32))) (g : n0 ≤ a) :
    MetFree l (⟨"com/example/synclattice/synclattice/sync/StatePairs", "<init>", "()V"⟩ : MethodName) (head1 (Jvm.Cond.code (⟨"com/example/synclattice/synclattice/sync/StatePairs", "<init>", "()V"⟩ : MethodName) prog_101_method_1_code 1 none :: ws) ({ frames := 1, cells := 10, slots := 32, locals := 12 } : Room)) (fun as_ U => as_ = #[(.ref a)] ∧ Z.Warmed39 U.vm ∧ U.heap = h0) (fun _ _ _ _ _ => True) (fun _ U o U' => ∃ v L, o = .returned v ∧ own_Q_own_init Z a h0 n0 v U'.heap L ∧ FrameEnd U o U' L ({ frames := 1, cells := 10, slots := 32, locals := 12 } : Room).cells ({ frames := 1, cells := 10, slots := 32, locals := 12 } : Room).slots) := by
  refine MetFree.of_bodySF (plainFor_of_name own_pn0) hisR ?_
  intro p e s m args below meth c s₁ Bd hml0 hP hK
  obtain ⟨rfl, hZ, hh⟩ := hP
  have hx := Bd.exec
  have hby := Bd.bytes
  have hml : c.maxLocals = 1 := hml0
  have hown : s.vm.findClass "com/example/synclattice/synclattice/sync/StatePairs" = some m.cls := findClass_of_methodNamed Bd.named
  have hnm := (name_of_methodNamed Bd.named Bd.method).1
  have X0 : Stand p l e ({ frames := 1, cells := 10, slots := 32, locals := 12 } : Room) s m #[(.ref a)] below meth c s₁ [] 0 0 := Stand.of_body Bd
  have e0 : s₁.heap = h0 := by rw [← hh, Bd.state]; rfl
  have N0 := Fr.nil n0
  have pre0 : ∀ t, Steps p.tables e below (s₁.setTop (mkF m 0 #[.val (.ref a)] [])) t → Steps p.tables e below (s₁.setTop (entryFrame m #[(.ref a)] 1)) t := fun t k => castTop (own_ef1 m a) k
  have KP := Keep.refl h0 ([a] : List Addr)
  obtain ⟨T1, X1, e1, st1⟩ := initO X0 hx hZ hown (hw _ (List.mem_of_getElem? (i := 6) rfl)) (hw _ (List.mem_of_getElem? (i := 7) rfl)) (hw _ (List.mem_of_getElem? (i := 8) rfl)) e0 (g := (mkF m 1 #[.val (.ref a)] [(.ref a)])) rfl (by rw [hml]; rfl) rfl (hb hby own_d1_1) (by decide) (W := 0) (by show 2 * 0 + _ ≤ _; exact Nat.le_of_eq rfl) (by decide)
  obtain ⟨T2, h2, k2, X2, e2, E2, A2, st2⟩ := newP X1 hx hZ (hw _ (List.mem_of_getElem? (i := 9) rfl)) e1 (g := (mkF m 6 #[.val (.ref a)] [(.int (0 : Int32)), (.ref a)])) rfl (hb hby own_d1_6) rfl (by decide) (cap := 0) (by decide) (by decide) (by decide) (by decide)
  obtain ⟨b2, g2⟩ : ∃ z, z = h0.size := ⟨_, rfl⟩
  rw [← g2] at A2 st2
  have g_b2 : n0 ≤ b2 := Nat.le_trans Z0 (Nat.le_of_eq g2.symm)
  have sz_b2 : h0.size ≤ b2 := Nat.le_trans KP.1 (Nat.le_of_eq g2.symm)
  have ne_a_b2 : a ≠ b2 := Nat.ne_of_lt (Nat.lt_of_lt_of_le E.lt (Nat.le_of_eq g2.symm))
  have E := E.ext E2
  have F_positives := F_positives.ext E2
  have F_negatives := F_negatives.ext E2
  have F_passes := F_passes.ext E2
  have F_firstPositives := F_firstPositives.ext E2
  have F_firstNegatives := F_firstNegatives.ext E2
  have F_sharedStateOf := F_sharedStateOf.ext E2
  have F_ownStateOf := F_ownStateOf.ext E2
  have F_slotOf := F_slotOf.ext E2
  have F_keys := F_keys.ext E2
  have F_numbers := F_numbers.ext E2
  have F_sharedStates := F_sharedStates.ext E2
  have F_count := F_count.ext E2
  have Z3 : n0 ≤ h2.size := Nat.le_trans Z0 E2.1
  have KP := KP.ext E2
  have V_b2 : Arv Z h2 b2 k2 .long (0 : Int32) [] (.long (0 : Int64)) := (Arv.new A2 (by decide)).pad (pad_rep [] (.long (0 : Int64)) 0)
  obtain ⟨T4, h4, X4, e4, W4, st4⟩ := putF X2 hx hZ hown (host := "") (Or.inl (hw _ (List.mem_of_getElem? (i := 10) rfl))) Via.refl e2 F_positives E (Or.inl (hw _ (List.mem_of_getElem? (i := 11) rfl))) (hw _ (List.mem_of_getElem? (i := 1) rfl)) (ty := (.array .long)) (by decide) rfl rfl (g := (mkF m 8 #[.val (.ref a)] [(.ref b2), (.ref a)])) rfl rfl (hb hby own_d1_8)
  have E := E.wr W4
  have F_negatives := F_negatives.other W4 (Or.inr (slot_ne (Or.inl (hw _ (List.mem_of_getElem? (i := 13) rfl))) (Or.inl (hw _ (List.mem_of_getElem? (i := 11) rfl))) (by decide) (t := (.array .long)) (t' := (.array .long)) (by decide) (by decide)))
  have F_passes := F_passes.other W4 (Or.inr (slot_ne (Or.inl (hw _ (List.mem_of_getElem? (i := 15) rfl))) (Or.inl (hw _ (List.mem_of_getElem? (i := 11) rfl))) (by decide) (t := (.array .long)) (t' := (.array .long)) (by decide) (by decide)))
  have F_firstPositives := F_firstPositives.other W4 (Or.inr (slot_ne (Or.inl (hw _ (List.mem_of_getElem? (i := 17) rfl))) (Or.inl (hw _ (List.mem_of_getElem? (i := 11) rfl))) (by decide) (t := (.array .long)) (t' := (.array .long)) (by decide) (by decide)))
  have F_firstNegatives := F_firstNegatives.other W4 (Or.inr (slot_ne (Or.inl (hw _ (List.mem_of_getElem? (i := 19) rfl))) (Or.inl (hw _ (List.mem_of_getElem? (i := 11) rfl))) (by decide) (t := (.array .long)) (t' := (.array .long)) (by decide) (by decide)))
  have F_sharedStateOf := F_sharedStateOf.other W4 (Or.inr (slot_ne (Or.inl (hw _ (List.mem_of_getElem? (i := 22) rfl))) (Or.inl (hw _ (List.mem_of_getElem? (i := 11) rfl))) (by decide) (t := (.array .int)) (t' := (.array .long)) (by decide) (by decide)))
  have F_ownStateOf := F_ownStateOf.other W4 (Or.inr (slot_ne (Or.inl (hw _ (List.mem_of_getElem? (i := 24) rfl))) (Or.inl (hw _ (List.mem_of_getElem? (i := 11) rfl))) (by decide) (t := (.array .int)) (t' := (.array .long)) (by decide) (by decide)))
  have F_slotOf := F_slotOf.other W4 (Or.inr (slot_ne (Or.inl (hw _ (List.mem_of_getElem? (i := 30) rfl))) (Or.inl (hw _ (List.mem_of_getElem? (i := 11) rfl))) (by decide) (t := (.array .int)) (t' := (.array .long)) (by decide) (by decide)))
  have F_keys := F_keys.other W4 (Or.inr (slot_ne (Or.inl (hw _ (List.mem_of_getElem? (i := 26) rfl))) (Or.inl (hw _ (List.mem_of_getElem? (i := 11) rfl))) (by decide) (t := (.array .long)) (t' := (.array .long)) (by decide) (by decide)))
  have F_numbers := F_numbers.other W4 (Or.inr (slot_ne (Or.inl (hw _ (List.mem_of_getElem? (i := 28) rfl))) (Or.inl (hw _ (List.mem_of_getElem? (i := 11) rfl))) (by decide) (t := (.array .int)) (t' := (.array .long)) (by decide) (by decide)))
  have F_sharedStates := F_sharedStates.other W4 (Or.inr (slot_ne (Or.inl (hw _ (List.mem_of_getElem? (i := 37) rfl))) (Or.inl (hw _ (List.mem_of_getElem? (i := 11) rfl))) (by decide) (t := .int) (t' := (.array .long)) (by decide) (by decide)))
  have F_count := F_count.other W4 (Or.inr (slot_ne (Or.inl (hw _ (List.mem_of_getElem? (i := 39) rfl))) (Or.inl (hw _ (List.mem_of_getElem? (i := 11) rfl))) (by decide) (t := .int) (t' := (.array .long)) (by decide) (by decide)))
  have V_b2 := V_b2.other W4 (Ne.symm ne_a_b2)
  have Z5 : n0 ≤ h4.size := Nat.le_trans Z3 (Keep.of_wr W4).1
  have KP := KP.wr W4 (Or.inl (List.mem_of_getElem? (i := 0) rfl))
  have F_positives := F_positives.same W4
  have N4 := Fr.snoc X4 N0 g
  obtain ⟨T6, h6, k6, X6, e6, E6, A6, st6⟩ := newP X4 hx hZ (hw _ (List.mem_of_getElem? (i := 9) rfl)) e4 (g := (mkF m 13 #[.val (.ref a)] [(.int (0 : Int32)), (.ref a)])) rfl (hb hby own_d1_13) rfl (by decide) (cap := 0) (by decide) (by decide) (by decide) (by decide)
  obtain ⟨b6, g6⟩ : ∃ z, z = h4.size := ⟨_, rfl⟩
  rw [← g6] at A6 st6
  have g_b6 : n0 ≤ b6 := Nat.le_trans Z5 (Nat.le_of_eq g6.symm)
  have sz_b6 : h0.size ≤ b6 := Nat.le_trans KP.1 (Nat.le_of_eq g6.symm)
  have ne_a_b6 : a ≠ b6 := Nat.ne_of_lt (Nat.lt_of_lt_of_le E.lt (Nat.le_of_eq g6.symm))
  have ne_b2_b6 : b2 ≠ b6 := Nat.ne_of_lt (Nat.lt_of_lt_of_le V_b2.lt (Nat.le_of_eq g6.symm))
  have E := E.ext E6
  have F_positives := F_positives.ext E6
  have F_negatives := F_negatives.ext E6
  have F_passes := F_passes.ext E6
  have F_firstPositives := F_firstPositives.ext E6
  have F_firstNegatives := F_firstNegatives.ext E6
  have F_sharedStateOf := F_sharedStateOf.ext E6
  have F_ownStateOf := F_ownStateOf.ext E6
  have F_slotOf := F_slotOf.ext E6
  have F_keys := F_keys.ext E6
  have F_numbers := F_numbers.ext E6
  have F_sharedStates := F_sharedStates.ext E6
  have F_count := F_count.ext E6
  have V_b2 := V_b2.ext E6
  have Z7 : n0 ≤ h6.size := Nat.le_trans Z5 E6.1
  have KP := KP.ext E6
  have V_b6 : Arv Z h6 b6 k6 .long (0 : Int32) [] (.long (0 : Int64)) := (Arv.new A6 (by decide)).pad (pad_rep [] (.long (0 : Int64)) 0)
  obtain ⟨T8, h8, X8, e8, W8, st8⟩ := putF X6 hx hZ hown (host := "") (Or.inl (hw _ (List.mem_of_getElem? (i := 12) rfl))) Via.refl e6 F_negatives E (Or.inl (hw _ (List.mem_of_getElem? (i := 13) rfl))) (hw _ (List.mem_of_getElem? (i := 1) rfl)) (ty := (.array .long)) (by decide) rfl rfl (g := (mkF m 15 #[.val (.ref a)] [(.ref b6), (.ref a)])) rfl rfl (hb hby own_d1_15)
  have E := E.wr W8
  have F_positives := F_positives.other W8 (Or.inr (slot_ne (Or.inl (hw _ (List.mem_of_getElem? (i := 11) rfl))) (Or.inl (hw _ (List.mem_of_getElem? (i := 13) rfl))) (by decide) (t := (.array .long)) (t' := (.array .long)) (by decide) (by decide)))
  have F_passes := F_passes.other W8 (Or.inr (slot_ne (Or.inl (hw _ (List.mem_of_getElem? (i := 15) rfl))) (Or.inl (hw _ (List.mem_of_getElem? (i := 13) rfl))) (by decide) (t := (.array .long)) (t' := (.array .long)) (by decide) (by decide)))
  have F_firstPositives := F_firstPositives.other W8 (Or.inr (slot_ne (Or.inl (hw _ (List.mem_of_getElem? (i := 17) rfl))) (Or.inl (hw _ (List.mem_of_getElem? (i := 13) rfl))) (by decide) (t := (.array .long)) (t' := (.array .long)) (by decide) (by decide)))
  have F_firstNegatives := F_firstNegatives.other W8 (Or.inr (slot_ne (Or.inl (hw _ (List.mem_of_getElem? (i := 19) rfl))) (Or.inl (hw _ (List.mem_of_getElem? (i := 13) rfl))) (by decide) (t := (.array .long)) (t' := (.array .long)) (by decide) (by decide)))
  have F_sharedStateOf := F_sharedStateOf.other W8 (Or.inr (slot_ne (Or.inl (hw _ (List.mem_of_getElem? (i := 22) rfl))) (Or.inl (hw _ (List.mem_of_getElem? (i := 13) rfl))) (by decide) (t := (.array .int)) (t' := (.array .long)) (by decide) (by decide)))
  have F_ownStateOf := F_ownStateOf.other W8 (Or.inr (slot_ne (Or.inl (hw _ (List.mem_of_getElem? (i := 24) rfl))) (Or.inl (hw _ (List.mem_of_getElem? (i := 13) rfl))) (by decide) (t := (.array .int)) (t' := (.array .long)) (by decide) (by decide)))
  have F_slotOf := F_slotOf.other W8 (Or.inr (slot_ne (Or.inl (hw _ (List.mem_of_getElem? (i := 30) rfl))) (Or.inl (hw _ (List.mem_of_getElem? (i := 13) rfl))) (by decide) (t := (.array .int)) (t' := (.array .long)) (by decide) (by decide)))
  have F_keys := F_keys.other W8 (Or.inr (slot_ne (Or.inl (hw _ (List.mem_of_getElem? (i := 26) rfl))) (Or.inl (hw _ (List.mem_of_getElem? (i := 13) rfl))) (by decide) (t := (.array .long)) (t' := (.array .long)) (by decide) (by decide)))
  have F_numbers := F_numbers.other W8 (Or.inr (slot_ne (Or.inl (hw _ (List.mem_of_getElem? (i := 28) rfl))) (Or.inl (hw _ (List.mem_of_getElem? (i := 13) rfl))) (by decide) (t := (.array .int)) (t' := (.array .long)) (by decide) (by decide)))
  have F_sharedStates := F_sharedStates.other W8 (Or.inr (slot_ne (Or.inl (hw _ (List.mem_of_getElem? (i := 37) rfl))) (Or.inl (hw _ (List.mem_of_getElem? (i := 13) rfl))) (by decide) (t := .int) (t' := (.array .long)) (by decide) (by decide)))
  have F_count := F_count.other W8 (Or.inr (slot_ne (Or.inl (hw _ (List.mem_of_getElem? (i := 39) rfl))) (Or.inl (hw _ (List.mem_of_getElem? (i := 13) rfl))) (by decide) (t := .int) (t' := (.array .long)) (by decide) (by decide)))
  have V_b2 := V_b2.other W8 (Ne.symm ne_a_b2)
  have V_b6 := V_b6.other W8 (Ne.symm ne_a_b6)
  have Z9 : n0 ≤ h8.size := Nat.le_trans Z7 (Keep.of_wr W8).1
  have KP := KP.wr W8 (Or.inl (List.mem_of_getElem? (i := 0) rfl))
  have F_negatives := F_negatives.same W8
  have N8 := Fr.snoc X8 N4 g
  obtain ⟨T10, h10, k10, X10, e10, E10, A10, st10⟩ := newP X8 hx hZ (hw _ (List.mem_of_getElem? (i := 9) rfl)) e8 (g := (mkF m 20 #[.val (.ref a)] [(.int (0 : Int32)), (.ref a)])) rfl (hb hby own_d1_20) rfl (by decide) (cap := 0) (by decide) (by decide) (by decide) (by decide)
  obtain ⟨b10, g10⟩ : ∃ z, z = h8.size := ⟨_, rfl⟩
  rw [← g10] at A10 st10
  have g_b10 : n0 ≤ b10 := Nat.le_trans Z9 (Nat.le_of_eq g10.symm)
  have sz_b10 : h0.size ≤ b10 := Nat.le_trans KP.1 (Nat.le_of_eq g10.symm)
  have ne_a_b10 : a ≠ b10 := Nat.ne_of_lt (Nat.lt_of_lt_of_le E.lt (Nat.le_of_eq g10.symm))
  have ne_b2_b10 : b2 ≠ b10 := Nat.ne_of_lt (Nat.lt_of_lt_of_le V_b2.lt (Nat.le_of_eq g10.symm))
  have ne_b6_b10 : b6 ≠ b10 := Nat.ne_of_lt (Nat.lt_of_lt_of_le V_b6.lt (Nat.le_of_eq g10.symm))
  have E := E.ext E10
  have F_positives := F_positives.ext E10
  have F_negatives := F_negatives.ext E10
  have F_passes := F_passes.ext E10
  have F_firstPositives := F_firstPositives.ext E10
  have F_firstNegatives := F_firstNegatives.ext E10
  have F_sharedStateOf := F_sharedStateOf.ext E10
  have F_ownStateOf := F_ownStateOf.ext E10
  have F_slotOf := F_slotOf.ext E10
  have F_keys := F_keys.ext E10
  have F_numbers := F_numbers.ext E10
  have F_sharedStates := F_sharedStates.ext E10
  have F_count := F_count.ext E10
  have V_b2 := V_b2.ext E10
  have V_b6 := V_b6.ext E10
  have Z11 : n0 ≤ h10.size := Nat.le_trans Z9 E10.1
  have KP := KP.ext E10
  have V_b10 : Arv Z h10 b10 k10 .long (0 : Int32) [] (.long (0 : Int64)) := (Arv.new A10 (by decide)).pad (pad_rep [] (.long (0 : Int64)) 0)
  obtain ⟨T12, h12, X12, e12, W12, st12⟩ := putF X10 hx hZ hown (host := "") (Or.inl (hw _ (List.mem_of_getElem? (i := 14) rfl))) Via.refl e10 F_passes E (Or.inl (hw _ (List.mem_of_getElem? (i := 15) rfl))) (hw _ (List.mem_of_getElem? (i := 1) rfl)) (ty := (.array .long)) (by decide) rfl rfl (g := (mkF m 22 #[.val (.ref a)] [(.ref b10), (.ref a)])) rfl rfl (hb hby own_d1_22)
  have E := E.wr W12
  have F_positives := F_positives.other W12 (Or.inr (slot_ne (Or.inl (hw _ (List.mem_of_getElem? (i := 11) rfl))) (Or.inl (hw _ (List.mem_of_getElem? (i := 15) rfl))) (by decide) (t := (.array .long)) (t' := (.array .long)) (by decide) (by decide)))
  have F_negatives := F_negatives.other W12 (Or.inr (slot_ne (Or.inl (hw _ (List.mem_of_getElem? (i := 13) rfl))) (Or.inl (hw _ (List.mem_of_getElem? (i := 15) rfl))) (by decide) (t := (.array .long)) (t' := (.array .long)) (by decide) (by decide)))
  have F_firstPositives := F_firstPositives.other W12 (Or.inr (slot_ne (Or.inl (hw _ (List.mem_of_getElem? (i := 17) rfl))) (Or.inl (hw _ (List.mem_of_getElem? (i := 15) rfl))) (by decide) (t := (.array .long)) (t' := (.array .long)) (by decide) (by decide)))
  have F_firstNegatives := F_firstNegatives.other W12 (Or.inr (slot_ne (Or.inl (hw _ (List.mem_of_getElem? (i := 19) rfl))) (Or.inl (hw _ (List.mem_of_getElem? (i := 15) rfl))) (by decide) (t := (.array .long)) (t' := (.array .long)) (by decide) (by decide)))
  have F_sharedStateOf := F_sharedStateOf.other W12 (Or.inr (slot_ne (Or.inl (hw _ (List.mem_of_getElem? (i := 22) rfl))) (Or.inl (hw _ (List.mem_of_getElem? (i := 15) rfl))) (by decide) (t := (.array .int)) (t' := (.array .long)) (by decide) (by decide)))
  have F_ownStateOf := F_ownStateOf.other W12 (Or.inr (slot_ne (Or.inl (hw _ (List.mem_of_getElem? (i := 24) rfl))) (Or.inl (hw _ (List.mem_of_getElem? (i := 15) rfl))) (by decide) (t := (.array .int)) (t' := (.array .long)) (by decide) (by decide)))
  have F_slotOf := F_slotOf.other W12 (Or.inr (slot_ne (Or.inl (hw _ (List.mem_of_getElem? (i := 30) rfl))) (Or.inl (hw _ (List.mem_of_getElem? (i := 15) rfl))) (by decide) (t := (.array .int)) (t' := (.array .long)) (by decide) (by decide)))
  have F_keys := F_keys.other W12 (Or.inr (slot_ne (Or.inl (hw _ (List.mem_of_getElem? (i := 26) rfl))) (Or.inl (hw _ (List.mem_of_getElem? (i := 15) rfl))) (by decide) (t := (.array .long)) (t' := (.array .long)) (by decide) (by decide)))
  have F_numbers := F_numbers.other W12 (Or.inr (slot_ne (Or.inl (hw _ (List.mem_of_getElem? (i := 28) rfl))) (Or.inl (hw _ (List.mem_of_getElem? (i := 15) rfl))) (by decide) (t := (.array .int)) (t' := (.array .long)) (by decide) (by decide)))
  have F_sharedStates := F_sharedStates.other W12 (Or.inr (slot_ne (Or.inl (hw _ (List.mem_of_getElem? (i := 37) rfl))) (Or.inl (hw _ (List.mem_of_getElem? (i := 15) rfl))) (by decide) (t := .int) (t' := (.array .long)) (by decide) (by decide)))
  have F_count := F_count.other W12 (Or.inr (slot_ne (Or.inl (hw _ (List.mem_of_getElem? (i := 39) rfl))) (Or.inl (hw _ (List.mem_of_getElem? (i := 15) rfl))) (by decide) (t := .int) (t' := (.array .long)) (by decide) (by decide)))
  have V_b2 := V_b2.other W12 (Ne.symm ne_a_b2)
  have V_b6 := V_b6.other W12 (Ne.symm ne_a_b6)
  have V_b10 := V_b10.other W12 (Ne.symm ne_a_b10)
  have Z13 : n0 ≤ h12.size := Nat.le_trans Z11 (Keep.of_wr W12).1
  have KP := KP.wr W12 (Or.inl (List.mem_of_getElem? (i := 0) rfl))
  have F_passes := F_passes.same W12
  have N12 := Fr.snoc X12 N8 g
  obtain ⟨T14, h14, k14, X14, e14, E14, A14, st14⟩ := newP X12 hx hZ (hw _ (List.mem_of_getElem? (i := 9) rfl)) e12 (g := (mkF m 27 #[.val (.ref a)] [(.int (0 : Int32)), (.ref a)])) rfl (hb hby own_d1_27) rfl (by decide) (cap := 0) (by decide) (by decide) (by decide) (by decide)
  obtain ⟨b14, g14⟩ : ∃ z, z = h12.size := ⟨_, rfl⟩
  rw [← g14] at A14 st14
  have g_b14 : n0 ≤ b14 := Nat.le_trans Z13 (Nat.le_of_eq g14.symm)
  have sz_b14 : h0.size ≤ b14 := Nat.le_trans KP.1 (Nat.le_of_eq g14.symm)
  have ne_a_b14 : a ≠ b14 := Nat.ne_of_lt (Nat.lt_of_lt_of_le E.lt (Nat.le_of_eq g14.symm))
  have ne_b2_b14 : b2 ≠ b14 := Nat.ne_of_lt (Nat.lt_of_lt_of_le V_b2.lt (Nat.le_of_eq g14.symm))
  have ne_b6_b14 : b6 ≠ b14 := Nat.ne_of_lt (Nat.lt_of_lt_of_le V_b6.lt (Nat.le_of_eq g14.symm))
  have ne_b10_b14 : b10 ≠ b14 := Nat.ne_of_lt (Nat.lt_of_lt_of_le V_b10.lt (Nat.le_of_eq g14.symm))
  have E := E.ext E14
  have F_positives := F_positives.ext E14
  have F_negatives := F_negatives.ext E14
  have F_passes := F_passes.ext E14
  have F_firstPositives := F_firstPositives.ext E14
  have F_firstNegatives := F_firstNegatives.ext E14
  have F_sharedStateOf := F_sharedStateOf.ext E14
  have F_ownStateOf := F_ownStateOf.ext E14
  have F_slotOf := F_slotOf.ext E14
  have F_keys := F_keys.ext E14
  have F_numbers := F_numbers.ext E14
  have F_sharedStates := F_sharedStates.ext E14
  have F_count := F_count.ext E14
  have V_b2 := V_b2.ext E14
  have V_b6 := V_b6.ext E14
  have V_b10 := V_b10.ext E14
  have Z15 : n0 ≤ h14.size := Nat.le_trans Z13 E14.1
  have KP := KP.ext E14
  have V_b14 : Arv Z h14 b14 k14 .long (0 : Int32) [] (.long (0 : Int64)) := (Arv.new A14 (by decide)).pad (pad_rep [] (.long (0 : Int64)) 0)
  obtain ⟨T16, h16, X16, e16, W16, st16⟩ := putF X14 hx hZ hown (host := "") (Or.inl (hw _ (List.mem_of_getElem? (i := 16) rfl))) Via.refl e14 F_firstPositives E (Or.inl (hw _ (List.mem_of_getElem? (i := 17) rfl))) (hw _ (List.mem_of_getElem? (i := 1) rfl)) (ty := (.array .long)) (by decide) rfl rfl (g := (mkF m 29 #[.val (.ref a)] [(.ref b14), (.ref a)])) rfl rfl (hb hby own_d1_29)
  have E := E.wr W16
  have F_positives := F_positives.other W16 (Or.inr (slot_ne (Or.inl (hw _ (List.mem_of_getElem? (i := 11) rfl))) (Or.inl (hw _ (List.mem_of_getElem? (i := 17) rfl))) (by decide) (t := (.array .long)) (t' := (.array .long)) (by decide) (by decide)))
  have F_negatives := F_negatives.other W16 (Or.inr (slot_ne (Or.inl (hw _ (List.mem_of_getElem? (i := 13) rfl))) (Or.inl (hw _ (List.mem_of_getElem? (i := 17) rfl))) (by decide) (t := (.array .long)) (t' := (.array .long)) (by decide) (by decide)))
  have F_passes := F_passes.other W16 (Or.inr (slot_ne (Or.inl (hw _ (List.mem_of_getElem? (i := 15) rfl))) (Or.inl (hw _ (List.mem_of_getElem? (i := 17) rfl))) (by decide) (t := (.array .long)) (t' := (.array .long)) (by decide) (by decide)))
  have F_firstNegatives := F_firstNegatives.other W16 (Or.inr (slot_ne (Or.inl (hw _ (List.mem_of_getElem? (i := 19) rfl))) (Or.inl (hw _ (List.mem_of_getElem? (i := 17) rfl))) (by decide) (t := (.array .long)) (t' := (.array .long)) (by decide) (by decide)))
  have F_sharedStateOf := F_sharedStateOf.other W16 (Or.inr (slot_ne (Or.inl (hw _ (List.mem_of_getElem? (i := 22) rfl))) (Or.inl (hw _ (List.mem_of_getElem? (i := 17) rfl))) (by decide) (t := (.array .int)) (t' := (.array .long)) (by decide) (by decide)))
  have F_ownStateOf := F_ownStateOf.other W16 (Or.inr (slot_ne (Or.inl (hw _ (List.mem_of_getElem? (i := 24) rfl))) (Or.inl (hw _ (List.mem_of_getElem? (i := 17) rfl))) (by decide) (t := (.array .int)) (t' := (.array .long)) (by decide) (by decide)))
  have F_slotOf := F_slotOf.other W16 (Or.inr (slot_ne (Or.inl (hw _ (List.mem_of_getElem? (i := 30) rfl))) (Or.inl (hw _ (List.mem_of_getElem? (i := 17) rfl))) (by decide) (t := (.array .int)) (t' := (.array .long)) (by decide) (by decide)))
  have F_keys := F_keys.other W16 (Or.inr (slot_ne (Or.inl (hw _ (List.mem_of_getElem? (i := 26) rfl))) (Or.inl (hw _ (List.mem_of_getElem? (i := 17) rfl))) (by decide) (t := (.array .long)) (t' := (.array .long)) (by decide) (by decide)))
  have F_numbers := F_numbers.other W16 (Or.inr (slot_ne (Or.inl (hw _ (List.mem_of_getElem? (i := 28) rfl))) (Or.inl (hw _ (List.mem_of_getElem? (i := 17) rfl))) (by decide) (t := (.array .int)) (t' := (.array .long)) (by decide) (by decide)))
  have F_sharedStates := F_sharedStates.other W16 (Or.inr (slot_ne (Or.inl (hw _ (List.mem_of_getElem? (i := 37) rfl))) (Or.inl (hw _ (List.mem_of_getElem? (i := 17) rfl))) (by decide) (t := .int) (t' := (.array .long)) (by decide) (by decide)))
  have F_count := F_count.other W16 (Or.inr (slot_ne (Or.inl (hw _ (List.mem_of_getElem? (i := 39) rfl))) (Or.inl (hw _ (List.mem_of_getElem? (i := 17) rfl))) (by decide) (t := .int) (t' := (.array .long)) (by decide) (by decide)))
  have V_b2 := V_b2.other W16 (Ne.symm ne_a_b2)
  have V_b6 := V_b6.other W16 (Ne.symm ne_a_b6)
  have V_b10 := V_b10.other W16 (Ne.symm ne_a_b10)
  have V_b14 := V_b14.other W16 (Ne.symm ne_a_b14)
  have Z17 : n0 ≤ h16.size := Nat.le_trans Z15 (Keep.of_wr W16).1
  have KP := KP.wr W16 (Or.inl (List.mem_of_getElem? (i := 0) rfl))
  have F_firstPositives := F_firstPositives.same W16
  have N16 := Fr.snoc X16 N12 g
  obtain ⟨T18, h18, k18, X18, e18, E18, A18, st18⟩ := newP X16 hx hZ (hw _ (List.mem_of_getElem? (i := 9) rfl)) e16 (g := (mkF m 34 #[.val (.ref a)] [(.int (0 : Int32)), (.ref a)])) rfl (hb hby own_d1_34) rfl (by decide) (cap := 0) (by decide) (by decide) (by decide) (by decide)
  obtain ⟨b18, g18⟩ : ∃ z, z = h16.size := ⟨_, rfl⟩
  rw [← g18] at A18 st18
  have g_b18 : n0 ≤ b18 := Nat.le_trans Z17 (Nat.le_of_eq g18.symm)
  have sz_b18 : h0.size ≤ b18 := Nat.le_trans KP.1 (Nat.le_of_eq g18.symm)
  have ne_a_b18 : a ≠ b18 := Nat.ne_of_lt (Nat.lt_of_lt_of_le E.lt (Nat.le_of_eq g18.symm))
  have ne_b2_b18 : b2 ≠ b18 := Nat.ne_of_lt (Nat.lt_of_lt_of_le V_b2.lt (Nat.le_of_eq g18.symm))
  have ne_b6_b18 : b6 ≠ b18 := Nat.ne_of_lt (Nat.lt_of_lt_of_le V_b6.lt (Nat.le_of_eq g18.symm))
  have ne_b10_b18 : b10 ≠ b18 := Nat.ne_of_lt (Nat.lt_of_lt_of_le V_b10.lt (Nat.le_of_eq g18.symm))
  have ne_b14_b18 : b14 ≠ b18 := Nat.ne_of_lt (Nat.lt_of_lt_of_le V_b14.lt (Nat.le_of_eq g18.symm))
  have E := E.ext E18
  have F_positives := F_positives.ext E18
  have F_negatives := F_negatives.ext E18
  have F_passes := F_passes.ext E18
  have F_firstPositives := F_firstPositives.ext E18
  have F_firstNegatives := F_firstNegatives.ext E18
  have F_sharedStateOf := F_sharedStateOf.ext E18
  have F_ownStateOf := F_ownStateOf.ext E18
  have F_slotOf := F_slotOf.ext E18
  have F_keys := F_keys.ext E18
  have F_numbers := F_numbers.ext E18
  have F_sharedStates := F_sharedStates.ext E18
  have F_count := F_count.ext E18
  have V_b2 := V_b2.ext E18
  have V_b6 := V_b6.ext E18
  have V_b10 := V_b10.ext E18
  have V_b14 := V_b14.ext E18
  have Z19 : n0 ≤ h18.size := Nat.le_trans Z17 E18.1
  have KP := KP.ext E18
  have V_b18 : Arv Z h18 b18 k18 .long (0 : Int32) [] (.long (0 : Int64)) := (Arv.new A18 (by decide)).pad (pad_rep [] (.long (0 : Int64)) 0)
  obtain ⟨T20, h20, X20, e20, W20, st20⟩ := putF X18 hx hZ hown (host := "") (Or.inl (hw _ (List.mem_of_getElem? (i := 18) rfl))) Via.refl e18 F_firstNegatives E (Or.inl (hw _ (List.mem_of_getElem? (i := 19) rfl))) (hw _ (List.mem_of_getElem? (i := 1) rfl)) (ty := (.array .long)) (by decide) rfl rfl (g := (mkF m 36 #[.val (.ref a)] [(.ref b18), (.ref a)])) rfl rfl (hb hby own_d1_36)
  have E := E.wr W20
  have F_positives := F_positives.other W20 (Or.inr (slot_ne (Or.inl (hw _ (List.mem_of_getElem? (i := 11) rfl))) (Or.inl (hw _ (List.mem_of_getElem? (i := 19) rfl))) (by decide) (t := (.array .long)) (t' := (.array .long)) (by decide) (by decide)))
  have F_negatives := F_negatives.other W20 (Or.inr (slot_ne (Or.inl (hw _ (List.mem_of_getElem? (i := 13) rfl))) (Or.inl (hw _ (List.mem_of_getElem? (i := 19) rfl))) (by decide) (t := (.array .long)) (t' := (.array .long)) (by decide) (by decide)))
  have F_passes := F_passes.other W20 (Or.inr (slot_ne (Or.inl (hw _ (List.mem_of_getElem? (i := 15) rfl))) (Or.inl (hw _ (List.mem_of_getElem? (i := 19) rfl))) (by decide) (t := (.array .long)) (t' := (.array .long)) (by decide) (by decide)))
  have F_firstPositives := F_firstPositives.other W20 (Or.inr (slot_ne (Or.inl (hw _ (List.mem_of_getElem? (i := 17) rfl))) (Or.inl (hw _ (List.mem_of_getElem? (i := 19) rfl))) (by decide) (t := (.array .long)) (t' := (.array .long)) (by decide) (by decide)))
  have F_sharedStateOf := F_sharedStateOf.other W20 (Or.inr (slot_ne (Or.inl (hw _ (List.mem_of_getElem? (i := 22) rfl))) (Or.inl (hw _ (List.mem_of_getElem? (i := 19) rfl))) (by decide) (t := (.array .int)) (t' := (.array .long)) (by decide) (by decide)))
  have F_ownStateOf := F_ownStateOf.other W20 (Or.inr (slot_ne (Or.inl (hw _ (List.mem_of_getElem? (i := 24) rfl))) (Or.inl (hw _ (List.mem_of_getElem? (i := 19) rfl))) (by decide) (t := (.array .int)) (t' := (.array .long)) (by decide) (by decide)))
  have F_slotOf := F_slotOf.other W20 (Or.inr (slot_ne (Or.inl (hw _ (List.mem_of_getElem? (i := 30) rfl))) (Or.inl (hw _ (List.mem_of_getElem? (i := 19) rfl))) (by decide) (t := (.array .int)) (t' := (.array .long)) (by decide) (by decide)))
  have F_keys := F_keys.other W20 (Or.inr (slot_ne (Or.inl (hw _ (List.mem_of_getElem? (i := 26) rfl))) (Or.inl (hw _ (List.mem_of_getElem? (i := 19) rfl))) (by decide) (t := (.array .long)) (t' := (.array .long)) (by decide) (by decide)))
  have F_numbers := F_numbers.other W20 (Or.inr (slot_ne (Or.inl (hw _ (List.mem_of_getElem? (i := 28) rfl))) (Or.inl (hw _ (List.mem_of_getElem? (i := 19) rfl))) (by decide) (t := (.array .int)) (t' := (.array .long)) (by decide) (by decide)))
  have F_sharedStates := F_sharedStates.other W20 (Or.inr (slot_ne (Or.inl (hw _ (List.mem_of_getElem? (i := 37) rfl))) (Or.inl (hw _ (List.mem_of_getElem? (i := 19) rfl))) (by decide) (t := .int) (t' := (.array .long)) (by decide) (by decide)))
  have F_count := F_count.other W20 (Or.inr (slot_ne (Or.inl (hw _ (List.mem_of_getElem? (i := 39) rfl))) (Or.inl (hw _ (List.mem_of_getElem? (i := 19) rfl))) (by decide) (t := .int) (t' := (.array .long)) (by decide) (by decide)))
  have V_b2 := V_b2.other W20 (Ne.symm ne_a_b2)
  have V_b6 := V_b6.other W20 (Ne.symm ne_a_b6)
  have V_b10 := V_b10.other W20 (Ne.symm ne_a_b10)
  have V_b14 := V_b14.other W20 (Ne.symm ne_a_b14)
  have V_b18 := V_b18.other W20 (Ne.symm ne_a_b18)
  have Z21 : n0 ≤ h20.size := Nat.le_trans Z19 (Keep.of_wr W20).1
  have KP := KP.wr W20 (Or.inl (List.mem_of_getElem? (i := 0) rfl))
  have F_firstNegatives := F_firstNegatives.same W20
  have N20 := Fr.snoc X20 N16 g
  obtain ⟨T22, h22, k22, X22, e22, E22, A22, st22⟩ := newP X20 hx hZ (hw _ (List.mem_of_getElem? (i := 20) rfl)) e20 (g := (mkF m 41 #[.val (.ref a)] [(.int (0 : Int32)), (.ref a)])) rfl (hb hby own_d1_41) rfl (by decide) (cap := 0) (by decide) (by decide) (by decide) (by decide)
  obtain ⟨b22, g22⟩ : ∃ z, z = h20.size := ⟨_, rfl⟩
  rw [← g22] at A22 st22
  have g_b22 : n0 ≤ b22 := Nat.le_trans Z21 (Nat.le_of_eq g22.symm)
  have sz_b22 : h0.size ≤ b22 := Nat.le_trans KP.1 (Nat.le_of_eq g22.symm)
  have ne_a_b22 : a ≠ b22 := Nat.ne_of_lt (Nat.lt_of_lt_of_le E.lt (Nat.le_of_eq g22.symm))
  have ne_b2_b22 : b2 ≠ b22 := Nat.ne_of_lt (Nat.lt_of_lt_of_le V_b2.lt (Nat.le_of_eq g22.symm))
  have ne_b6_b22 : b6 ≠ b22 := Nat.ne_of_lt (Nat.lt_of_lt_of_le V_b6.lt (Nat.le_of_eq g22.symm))
  have ne_b10_b22 : b10 ≠ b22 := Nat.ne_of_lt (Nat.lt_of_lt_of_le V_b10.lt (Nat.le_of_eq g22.symm))
  have ne_b14_b22 : b14 ≠ b22 := Nat.ne_of_lt (Nat.lt_of_lt_of_le V_b14.lt (Nat.le_of_eq g22.symm))
  have ne_b18_b22 : b18 ≠ b22 := Nat.ne_of_lt (Nat.lt_of_lt_of_le V_b18.lt (Nat.le_of_eq g22.symm))
  have E := E.ext E22
  have F_positives := F_positives.ext E22
  have F_negatives := F_negatives.ext E22
  have F_passes := F_passes.ext E22
  have F_firstPositives := F_firstPositives.ext E22
  have F_firstNegatives := F_firstNegatives.ext E22
  have F_sharedStateOf := F_sharedStateOf.ext E22
  have F_ownStateOf := F_ownStateOf.ext E22
  have F_slotOf := F_slotOf.ext E22
  have F_keys := F_keys.ext E22
  have F_numbers := F_numbers.ext E22
  have F_sharedStates := F_sharedStates.ext E22
  have F_count := F_count.ext E22
  have V_b2 := V_b2.ext E22
  have V_b6 := V_b6.ext E22
  have V_b10 := V_b10.ext E22
  have V_b14 := V_b14.ext E22
  have V_b18 := V_b18.ext E22
  have Z23 : n0 ≤ h22.size := Nat.le_trans Z21 E22.1
  have KP := KP.ext E22
  have V_b22 : Arv Z h22 b22 k22 .int (0 : Int32) [] (.int (0 : Int32)) := (Arv.new A22 (by decide)).pad (pad_rep [] (.int (0 : Int32)) 0)
  obtain ⟨T24, h24, X24, e24, W24, st24⟩ := putF X22 hx hZ hown (host := "") (Or.inl (hw _ (List.mem_of_getElem? (i := 21) rfl))) Via.refl e22 F_sharedStateOf E (Or.inl (hw _ (List.mem_of_getElem? (i := 22) rfl))) (hw _ (List.mem_of_getElem? (i := 1) rfl)) (ty := (.array .int)) (by decide) rfl rfl (g := (mkF m 43 #[.val (.ref a)] [(.ref b22), (.ref a)])) rfl rfl (hb hby own_d1_43)
  have E := E.wr W24
  have F_positives := F_positives.other W24 (Or.inr (slot_ne (Or.inl (hw _ (List.mem_of_getElem? (i := 11) rfl))) (Or.inl (hw _ (List.mem_of_getElem? (i := 22) rfl))) (by decide) (t := (.array .long)) (t' := (.array .int)) (by decide) (by decide)))
  have F_negatives := F_negatives.other W24 (Or.inr (slot_ne (Or.inl (hw _ (List.mem_of_getElem? (i := 13) rfl))) (Or.inl (hw _ (List.mem_of_getElem? (i := 22) rfl))) (by decide) (t := (.array .long)) (t' := (.array .int)) (by decide) (by decide)))
  have F_passes := F_passes.other W24 (Or.inr (slot_ne (Or.inl (hw _ (List.mem_of_getElem? (i := 15) rfl))) (Or.inl (hw _ (List.mem_of_getElem? (i := 22) rfl))) (by decide) (t := (.array .long)) (t' := (.array .int)) (by decide) (by decide)))
  have F_firstPositives := F_firstPositives.other W24 (Or.inr (slot_ne (Or.inl (hw _ (List.mem_of_getElem? (i := 17) rfl))) (Or.inl (hw _ (List.mem_of_getElem? (i := 22) rfl))) (by decide) (t := (.array .long)) (t' := (.array .int)) (by decide) (by decide)))
  have F_firstNegatives := F_firstNegatives.other W24 (Or.inr (slot_ne (Or.inl (hw _ (List.mem_of_getElem? (i := 19) rfl))) (Or.inl (hw _ (List.mem_of_getElem? (i := 22) rfl))) (by decide) (t := (.array .long)) (t' := (.array .int)) (by decide) (by decide)))
  have F_ownStateOf := F_ownStateOf.other W24 (Or.inr (slot_ne (Or.inl (hw _ (List.mem_of_getElem? (i := 24) rfl))) (Or.inl (hw _ (List.mem_of_getElem? (i := 22) rfl))) (by decide) (t := (.array .int)) (t' := (.array .int)) (by decide) (by decide)))
  have F_slotOf := F_slotOf.other W24 (Or.inr (slot_ne (Or.inl (hw _ (List.mem_of_getElem? (i := 30) rfl))) (Or.inl (hw _ (List.mem_of_getElem? (i := 22) rfl))) (by decide) (t := (.array .int)) (t' := (.array .int)) (by decide) (by decide)))
  have F_keys := F_keys.other W24 (Or.inr (slot_ne (Or.inl (hw _ (List.mem_of_getElem? (i := 26) rfl))) (Or.inl (hw _ (List.mem_of_getElem? (i := 22) rfl))) (by decide) (t := (.array .long)) (t' := (.array .int)) (by decide) (by decide)))
  have F_numbers := F_numbers.other W24 (Or.inr (slot_ne (Or.inl (hw _ (List.mem_of_getElem? (i := 28) rfl))) (Or.inl (hw _ (List.mem_of_getElem? (i := 22) rfl))) (by decide) (t := (.array .int)) (t' := (.array .int)) (by decide) (by decide)))
  have F_sharedStates := F_sharedStates.other W24 (Or.inr (slot_ne (Or.inl (hw _ (List.mem_of_getElem? (i := 37) rfl))) (Or.inl (hw _ (List.mem_of_getElem? (i := 22) rfl))) (by decide) (t := .int) (t' := (.array .int)) (by decide) (by decide)))
  have F_count := F_count.other W24 (Or.inr (slot_ne (Or.inl (hw _ (List.mem_of_getElem? (i := 39) rfl))) (Or.inl (hw _ (List.mem_of_getElem? (i := 22) rfl))) (by decide) (t := .int) (t' := (.array .int)) (by decide) (by decide)))
  have V_b2 := V_b2.other W24 (Ne.symm ne_a_b2)
  have V_b6 := V_b6.other W24 (Ne.symm ne_a_b6)
  have V_b10 := V_b10.other W24 (Ne.symm ne_a_b10)
  have V_b14 := V_b14.other W24 (Ne.symm ne_a_b14)
  have V_b18 := V_b18.other W24 (Ne.symm ne_a_b18)
  have V_b22 := V_b22.other W24 (Ne.symm ne_a_b22)
  have Z25 : n0 ≤ h24.size := Nat.le_trans Z23 (Keep.of_wr W24).1
  have KP := KP.wr W24 (Or.inl (List.mem_of_getElem? (i := 0) rfl))
  have F_sharedStateOf := F_sharedStateOf.same W24
  have N24 := Fr.snoc X24 N20 g
  obtain ⟨T26, h26, k26, X26, e26, E26, A26, st26⟩ := newP X24 hx hZ (hw _ (List.mem_of_getElem? (i := 20) rfl)) e24 (g := (mkF m 48 #[.val (.ref a)] [(.int (0 : Int32)), (.ref a)])) rfl (hb hby own_d1_48) rfl (by decide) (cap := 0) (by decide) (by decide) (by decide) (by decide)
  obtain ⟨b26, g26⟩ : ∃ z, z = h24.size := ⟨_, rfl⟩
  rw [← g26] at A26 st26
  have g_b26 : n0 ≤ b26 := Nat.le_trans Z25 (Nat.le_of_eq g26.symm)
  have sz_b26 : h0.size ≤ b26 := Nat.le_trans KP.1 (Nat.le_of_eq g26.symm)
  have ne_a_b26 : a ≠ b26 := Nat.ne_of_lt (Nat.lt_of_lt_of_le E.lt (Nat.le_of_eq g26.symm))
  have ne_b2_b26 : b2 ≠ b26 := Nat.ne_of_lt (Nat.lt_of_lt_of_le V_b2.lt (Nat.le_of_eq g26.symm))
  have ne_b6_b26 : b6 ≠ b26 := Nat.ne_of_lt (Nat.lt_of_lt_of_le V_b6.lt (Nat.le_of_eq g26.symm))
  have ne_b10_b26 : b10 ≠ b26 := Nat.ne_of_lt (Nat.lt_of_lt_of_le V_b10.lt (Nat.le_of_eq g26.symm))
  have ne_b14_b26 : b14 ≠ b26 := Nat.ne_of_lt (Nat.lt_of_lt_of_le V_b14.lt (Nat.le_of_eq g26.symm))
  have ne_b18_b26 : b18 ≠ b26 := Nat.ne_of_lt (Nat.lt_of_lt_of_le V_b18.lt (Nat.le_of_eq g26.symm))
  have ne_b22_b26 : b22 ≠ b26 := Nat.ne_of_lt (Nat.lt_of_lt_of_le V_b22.lt (Nat.le_of_eq g26.symm))
  have E := E.ext E26
  have F_positives := F_positives.ext E26
  have F_negatives := F_negatives.ext E26
  have F_passes := F_passes.ext E26
  have F_firstPositives := F_firstPositives.ext E26
  have F_firstNegatives := F_firstNegatives.ext E26
  have F_sharedStateOf := F_sharedStateOf.ext E26
  have F_ownStateOf := F_ownStateOf.ext E26
  have F_slotOf := F_slotOf.ext E26
  have F_keys := F_keys.ext E26
  have F_numbers := F_numbers.ext E26
  have F_sharedStates := F_sharedStates.ext E26
  have F_count := F_count.ext E26
  have V_b2 := V_b2.ext E26
  have V_b6 := V_b6.ext E26
  have V_b10 := V_b10.ext E26
  have V_b14 := V_b14.ext E26
  have V_b18 := V_b18.ext E26
  have V_b22 := V_b22.ext E26
  have Z27 : n0 ≤ h26.size := Nat.le_trans Z25 E26.1
  have KP := KP.ext E26
  have V_b26 : Arv Z h26 b26 k26 .int (0 : Int32) [] (.int (0 : Int32)) := (Arv.new A26 (by decide)).pad (pad_rep [] (.int (0 : Int32)) 0)
  obtain ⟨T28, h28, X28, e28, W28, st28⟩ := putF X26 hx hZ hown (host := "") (Or.inl (hw _ (List.mem_of_getElem? (i := 23) rfl))) Via.refl e26 F_ownStateOf E (Or.inl (hw _ (List.mem_of_getElem? (i := 24) rfl))) (hw _ (List.mem_of_getElem? (i := 1) rfl)) (ty := (.array .int)) (by decide) rfl rfl (g := (mkF m 50 #[.val (.ref a)] [(.ref b26), (.ref a)])) rfl rfl (hb hby own_d1_50)
  have E := E.wr W28
  have F_positives := F_positives.other W28 (Or.inr (slot_ne (Or.inl (hw _ (List.mem_of_getElem? (i := 11) rfl))) (Or.inl (hw _ (List.mem_of_getElem? (i := 24) rfl))) (by decide) (t := (.array .long)) (t' := (.array .int)) (by decide) (by decide)))
  have F_negatives := F_negatives.other W28 (Or.inr (slot_ne (Or.inl (hw _ (List.mem_of_getElem? (i := 13) rfl))) (Or.inl (hw _ (List.mem_of_getElem? (i := 24) rfl))) (by decide) (t := (.array .long)) (t' := (.array .int)) (by decide) (by decide)))
  have F_passes := F_passes.other W28 (Or.inr (slot_ne (Or.inl (hw _ (List.mem_of_getElem? (i := 15) rfl))) (Or.inl (hw _ (List.mem_of_getElem? (i := 24) rfl))) (by decide) (t := (.array .long)) (t' := (.array .int)) (by decide) (by decide)))
  have F_firstPositives := F_firstPositives.other W28 (Or.inr (slot_ne (Or.inl (hw _ (List.mem_of_getElem? (i := 17) rfl))) (Or.inl (hw _ (List.mem_of_getElem? (i := 24) rfl))) (by decide) (t := (.array .long)) (t' := (.array .int)) (by decide) (by decide)))
  have F_firstNegatives := F_firstNegatives.other W28 (Or.inr (slot_ne (Or.inl (hw _ (List.mem_of_getElem? (i := 19) rfl))) (Or.inl (hw _ (List.mem_of_getElem? (i := 24) rfl))) (by decide) (t := (.array .long)) (t' := (.array .int)) (by decide) (by decide)))
  have F_sharedStateOf := F_sharedStateOf.other W28 (Or.inr (slot_ne (Or.inl (hw _ (List.mem_of_getElem? (i := 22) rfl))) (Or.inl (hw _ (List.mem_of_getElem? (i := 24) rfl))) (by decide) (t := (.array .int)) (t' := (.array .int)) (by decide) (by decide)))
  have F_slotOf := F_slotOf.other W28 (Or.inr (slot_ne (Or.inl (hw _ (List.mem_of_getElem? (i := 30) rfl))) (Or.inl (hw _ (List.mem_of_getElem? (i := 24) rfl))) (by decide) (t := (.array .int)) (t' := (.array .int)) (by decide) (by decide)))
  have F_keys := F_keys.other W28 (Or.inr (slot_ne (Or.inl (hw _ (List.mem_of_getElem? (i := 26) rfl))) (Or.inl (hw _ (List.mem_of_getElem? (i := 24) rfl))) (by decide) (t := (.array .long)) (t' := (.array .int)) (by decide) (by decide)))
  have F_numbers := F_numbers.other W28 (Or.inr (slot_ne (Or.inl (hw _ (List.mem_of_getElem? (i := 28) rfl))) (Or.inl (hw _ (List.mem_of_getElem? (i := 24) rfl))) (by decide) (t := (.array .int)) (t' := (.array .int)) (by decide) (by decide)))
  have F_sharedStates := F_sharedStates.other W28 (Or.inr (slot_ne (Or.inl (hw _ (List.mem_of_getElem? (i := 37) rfl))) (Or.inl (hw _ (List.mem_of_getElem? (i := 24) rfl))) (by decide) (t := .int) (t' := (.array .int)) (by decide) (by decide)))
  have F_count := F_count.other W28 (Or.inr (slot_ne (Or.inl (hw _ (List.mem_of_getElem? (i := 39) rfl))) (Or.inl (hw _ (List.mem_of_getElem? (i := 24) rfl))) (by decide) (t := .int) (t' := (.array .int)) (by decide) (by decide)))
  have V_b2 := V_b2.other W28 (Ne.symm ne_a_b2)
  have V_b6 := V_b6.other W28 (Ne.symm ne_a_b6)
  have V_b10 := V_b10.other W28 (Ne.symm ne_a_b10)
  have V_b14 := V_b14.other W28 (Ne.symm ne_a_b14)
  have V_b18 := V_b18.other W28 (Ne.symm ne_a_b18)
  have V_b22 := V_b22.other W28 (Ne.symm ne_a_b22)
  have V_b26 := V_b26.other W28 (Ne.symm ne_a_b26)
  have Z29 : n0 ≤ h28.size := Nat.le_trans Z27 (Keep.of_wr W28).1
  have KP := KP.wr W28 (Or.inl (List.mem_of_getElem? (i := 0) rfl))
  have F_ownStateOf := F_ownStateOf.same W28
  have N28 := Fr.snoc X28 N24 g
  obtain ⟨T30, h30, k30, X30, e30, E30, A30, st30⟩ := newP X28 hx hZ (hw _ (List.mem_of_getElem? (i := 9) rfl)) e28 (g := (mkF m 56 #[.val (.ref a)] [(.int (16 : Int32)), (.ref a)])) rfl (hb hby own_d1_56) rfl (by decide) (cap := 16) (by decide) (by decide) (by decide) (by decide)
  obtain ⟨b30, g30⟩ : ∃ z, z = h28.size := ⟨_, rfl⟩
  rw [← g30] at A30 st30
  have g_b30 : n0 ≤ b30 := Nat.le_trans Z29 (Nat.le_of_eq g30.symm)
  have sz_b30 : h0.size ≤ b30 := Nat.le_trans KP.1 (Nat.le_of_eq g30.symm)
  have ne_a_b30 : a ≠ b30 := Nat.ne_of_lt (Nat.lt_of_lt_of_le E.lt (Nat.le_of_eq g30.symm))
  have ne_b2_b30 : b2 ≠ b30 := Nat.ne_of_lt (Nat.lt_of_lt_of_le V_b2.lt (Nat.le_of_eq g30.symm))
  have ne_b6_b30 : b6 ≠ b30 := Nat.ne_of_lt (Nat.lt_of_lt_of_le V_b6.lt (Nat.le_of_eq g30.symm))
  have ne_b10_b30 : b10 ≠ b30 := Nat.ne_of_lt (Nat.lt_of_lt_of_le V_b10.lt (Nat.le_of_eq g30.symm))
  have ne_b14_b30 : b14 ≠ b30 := Nat.ne_of_lt (Nat.lt_of_lt_of_le V_b14.lt (Nat.le_of_eq g30.symm))
  have ne_b18_b30 : b18 ≠ b30 := Nat.ne_of_lt (Nat.lt_of_lt_of_le V_b18.lt (Nat.le_of_eq g30.symm))
  have ne_b22_b30 : b22 ≠ b30 := Nat.ne_of_lt (Nat.lt_of_lt_of_le V_b22.lt (Nat.le_of_eq g30.symm))
  have ne_b26_b30 : b26 ≠ b30 := Nat.ne_of_lt (Nat.lt_of_lt_of_le V_b26.lt (Nat.le_of_eq g30.symm))
  have E := E.ext E30
  have F_positives := F_positives.ext E30
  have F_negatives := F_negatives.ext E30
  have F_passes := F_passes.ext E30
  have F_firstPositives := F_firstPositives.ext E30
  have F_firstNegatives := F_firstNegatives.ext E30
  have F_sharedStateOf := F_sharedStateOf.ext E30
  have F_ownStateOf := F_ownStateOf.ext E30
  have F_slotOf := F_slotOf.ext E30
  have F_keys := F_keys.ext E30
  have F_numbers := F_numbers.ext E30
  have F_sharedStates := F_sharedStates.ext E30
  have F_count := F_count.ext E30
  have V_b2 := V_b2.ext E30
  have V_b6 := V_b6.ext E30
  have V_b10 := V_b10.ext E30
  have V_b14 := V_b14.ext E30
  have V_b18 := V_b18.ext E30
  have V_b22 := V_b22.ext E30
  have V_b26 := V_b26.ext E30
  have Z31 : n0 ≤ h30.size := Nat.le_trans Z29 E30.1
  have KP := KP.ext E30
  have V_b30 : Arv Z h30 b30 k30 .long (16 : Int32) [(.long (0 : Int64)), (.long (0 : Int64)), (.long (0 : Int64)), (.long (0 : Int64)), (.long (0 : Int64)), (.long (0 : Int64)), (.long (0 : Int64)), (.long (0 : Int64)), (.long (0 : Int64)), (.long (0 : Int64)), (.long (0 : Int64)), (.long (0 : Int64)), (.long (0 : Int64)), (.long (0 : Int64)), (.long (0 : Int64)), (.long (0 : Int64))] (.long (0 : Int64)) := (Arv.new A30 (by decide)).pad (pad_rep [] (.long (0 : Int64)) 16)
  obtain ⟨T32, h32, X32, e32, W32, st32⟩ := putF X30 hx hZ hown (host := "") (Or.inl (hw _ (List.mem_of_getElem? (i := 25) rfl))) Via.refl e30 F_keys E (Or.inl (hw _ (List.mem_of_getElem? (i := 26) rfl))) (hw _ (List.mem_of_getElem? (i := 1) rfl)) (ty := (.array .long)) (by decide) rfl rfl (g := (mkF m 58 #[.val (.ref a)] [(.ref b30), (.ref a)])) rfl rfl (hb hby own_d1_58)
  have E := E.wr W32
  have F_positives := F_positives.other W32 (Or.inr (slot_ne (Or.inl (hw _ (List.mem_of_getElem? (i := 11) rfl))) (Or.inl (hw _ (List.mem_of_getElem? (i := 26) rfl))) (by decide) (t := (.array .long)) (t' := (.array .long)) (by decide) (by decide)))
  have F_negatives := F_negatives.other W32 (Or.inr (slot_ne (Or.inl (hw _ (List.mem_of_getElem? (i := 13) rfl))) (Or.inl (hw _ (List.mem_of_getElem? (i := 26) rfl))) (by decide) (t := (.array .long)) (t' := (.array .long)) (by decide) (by decide)))
  have F_passes := F_passes.other W32 (Or.inr (slot_ne (Or.inl (hw _ (List.mem_of_getElem? (i := 15) rfl))) (Or.inl (hw _ (List.mem_of_getElem? (i := 26) rfl))) (by decide) (t := (.array .long)) (t' := (.array .long)) (by decide) (by decide)))
  have F_firstPositives := F_firstPositives.other W32 (Or.inr (slot_ne (Or.inl (hw _ (List.mem_of_getElem? (i := 17) rfl))) (Or.inl (hw _ (List.mem_of_getElem? (i := 26) rfl))) (by decide) (t := (.array .long)) (t' := (.array .long)) (by decide) (by decide)))
  have F_firstNegatives := F_firstNegatives.other W32 (Or.inr (slot_ne (Or.inl (hw _ (List.mem_of_getElem? (i := 19) rfl))) (Or.inl (hw _ (List.mem_of_getElem? (i := 26) rfl))) (by decide) (t := (.array .long)) (t' := (.array .long)) (by decide) (by decide)))
  have F_sharedStateOf := F_sharedStateOf.other W32 (Or.inr (slot_ne (Or.inl (hw _ (List.mem_of_getElem? (i := 22) rfl))) (Or.inl (hw _ (List.mem_of_getElem? (i := 26) rfl))) (by decide) (t := (.array .int)) (t' := (.array .long)) (by decide) (by decide)))
  have F_ownStateOf := F_ownStateOf.other W32 (Or.inr (slot_ne (Or.inl (hw _ (List.mem_of_getElem? (i := 24) rfl))) (Or.inl (hw _ (List.mem_of_getElem? (i := 26) rfl))) (by decide) (t := (.array .int)) (t' := (.array .long)) (by decide) (by decide)))
  have F_slotOf := F_slotOf.other W32 (Or.inr (slot_ne (Or.inl (hw _ (List.mem_of_getElem? (i := 30) rfl))) (Or.inl (hw _ (List.mem_of_getElem? (i := 26) rfl))) (by decide) (t := (.array .int)) (t' := (.array .long)) (by decide) (by decide)))
  have F_numbers := F_numbers.other W32 (Or.inr (slot_ne (Or.inl (hw _ (List.mem_of_getElem? (i := 28) rfl))) (Or.inl (hw _ (List.mem_of_getElem? (i := 26) rfl))) (by decide) (t := (.array .int)) (t' := (.array .long)) (by decide) (by decide)))
  have F_sharedStates := F_sharedStates.other W32 (Or.inr (slot_ne (Or.inl (hw _ (List.mem_of_getElem? (i := 37) rfl))) (Or.inl (hw _ (List.mem_of_getElem? (i := 26) rfl))) (by decide) (t := .int) (t' := (.array .long)) (by decide) (by decide)))
  have F_count := F_count.other W32 (Or.inr (slot_ne (Or.inl (hw _ (List.mem_of_getElem? (i := 39) rfl))) (Or.inl (hw _ (List.mem_of_getElem? (i := 26) rfl))) (by decide) (t := .int) (t' := (.array .long)) (by decide) (by decide)))
  have V_b2 := V_b2.other W32 (Ne.symm ne_a_b2)
  have V_b6 := V_b6.other W32 (Ne.symm ne_a_b6)
  have V_b10 := V_b10.other W32 (Ne.symm ne_a_b10)
  have V_b14 := V_b14.other W32 (Ne.symm ne_a_b14)
  have V_b18 := V_b18.other W32 (Ne.symm ne_a_b18)
  have V_b22 := V_b22.other W32 (Ne.symm ne_a_b22)
  have V_b26 := V_b26.other W32 (Ne.symm ne_a_b26)
  have V_b30 := V_b30.other W32 (Ne.symm ne_a_b30)
  have Z33 : n0 ≤ h32.size := Nat.le_trans Z31 (Keep.of_wr W32).1
  have KP := KP.wr W32 (Or.inl (List.mem_of_getElem? (i := 0) rfl))
  have F_keys := F_keys.same W32
  have N32 := Fr.snoc X32 N28 g
  obtain ⟨T34, h34, k34, X34, e34, E34, A34, st34⟩ := newP X32 hx hZ (hw _ (List.mem_of_getElem? (i := 20) rfl)) e32 (g := (mkF m 64 #[.val (.ref a)] [(.int (16 : Int32)), (.ref a)])) rfl (hb hby own_d1_64) rfl (by decide) (cap := 16) (by decide) (by decide) (by decide) (by decide)
  obtain ⟨b34, g34⟩ : ∃ z, z = h32.size := ⟨_, rfl⟩
  rw [← g34] at A34 st34
  have g_b34 : n0 ≤ b34 := Nat.le_trans Z33 (Nat.le_of_eq g34.symm)
  have sz_b34 : h0.size ≤ b34 := Nat.le_trans KP.1 (Nat.le_of_eq g34.symm)
  have ne_a_b34 : a ≠ b34 := Nat.ne_of_lt (Nat.lt_of_lt_of_le E.lt (Nat.le_of_eq g34.symm))
  have ne_b2_b34 : b2 ≠ b34 := Nat.ne_of_lt (Nat.lt_of_lt_of_le V_b2.lt (Nat.le_of_eq g34.symm))
  have ne_b6_b34 : b6 ≠ b34 := Nat.ne_of_lt (Nat.lt_of_lt_of_le V_b6.lt (Nat.le_of_eq g34.symm))
  have ne_b10_b34 : b10 ≠ b34 := Nat.ne_of_lt (Nat.lt_of_lt_of_le V_b10.lt (Nat.le_of_eq g34.symm))
  have ne_b14_b34 : b14 ≠ b34 := Nat.ne_of_lt (Nat.lt_of_lt_of_le V_b14.lt (Nat.le_of_eq g34.symm))
  have ne_b18_b34 : b18 ≠ b34 := Nat.ne_of_lt (Nat.lt_of_lt_of_le V_b18.lt (Nat.le_of_eq g34.symm))
  have ne_b22_b34 : b22 ≠ b34 := Nat.ne_of_lt (Nat.lt_of_lt_of_le V_b22.lt (Nat.le_of_eq g34.symm))
  have ne_b26_b34 : b26 ≠ b34 := Nat.ne_of_lt (Nat.lt_of_lt_of_le V_b26.lt (Nat.le_of_eq g34.symm))
  have ne_b30_b34 : b30 ≠ b34 := Nat.ne_of_lt (Nat.lt_of_lt_of_le V_b30.lt (Nat.le_of_eq g34.symm))
  have E := E.ext E34
  have F_positives := F_positives.ext E34
  have F_negatives := F_negatives.ext E34
  have F_passes := F_passes.ext E34
  have F_firstPositives := F_firstPositives.ext E34
  have F_firstNegatives := F_firstNegatives.ext E34
  have F_sharedStateOf := F_sharedStateOf.ext E34
  have F_ownStateOf := F_ownStateOf.ext E34
  have F_slotOf := F_slotOf.ext E34
  have F_keys := F_keys.ext E34
  have F_numbers := F_numbers.ext E34
  have F_sharedStates := F_sharedStates.ext E34
  have F_count := F_count.ext E34
  have V_b2 := V_b2.ext E34
  have V_b6 := V_b6.ext E34
  have V_b10 := V_b10.ext E34
  have V_b14 := V_b14.ext E34
  have V_b18 := V_b18.ext E34
  have V_b22 := V_b22.ext E34
  have V_b26 := V_b26.ext E34
  have V_b30 := V_b30.ext E34
  have Z35 : n0 ≤ h34.size := Nat.le_trans Z33 E34.1
  have KP := KP.ext E34
  have V_b34 : Arv Z h34 b34 k34 .int (16 : Int32) [(.int (0 : Int32)), (.int (0 : Int32)), (.int (0 : Int32)), (.int (0 : Int32)), (.int (0 : Int32)), (.int (0 : Int32)), (.int (0 : Int32)), (.int (0 : Int32)), (.int (0 : Int32)), (.int (0 : Int32)), (.int (0 : Int32)), (.int (0 : Int32)), (.int (0 : Int32)), (.int (0 : Int32)), (.int (0 : Int32)), (.int (0 : Int32))] (.int (0 : Int32)) := (Arv.new A34 (by decide)).pad (pad_rep [] (.int (0 : Int32)) 16)
  obtain ⟨T36, h36, X36, e36, W36, st36⟩ := putF X34 hx hZ hown (host := "") (Or.inl (hw _ (List.mem_of_getElem? (i := 27) rfl))) Via.refl e34 F_numbers E (Or.inl (hw _ (List.mem_of_getElem? (i := 28) rfl))) (hw _ (List.mem_of_getElem? (i := 1) rfl)) (ty := (.array .int)) (by decide) rfl rfl (g := (mkF m 66 #[.val (.ref a)] [(.ref b34), (.ref a)])) rfl rfl (hb hby own_d1_66)
  have E := E.wr W36
  have F_positives := F_positives.other W36 (Or.inr (slot_ne (Or.inl (hw _ (List.mem_of_getElem? (i := 11) rfl))) (Or.inl (hw _ (List.mem_of_getElem? (i := 28) rfl))) (by decide) (t := (.array .long)) (t' := (.array .int)) (by decide) (by decide)))
  have F_negatives := F_negatives.other W36 (Or.inr (slot_ne (Or.inl (hw _ (List.mem_of_getElem? (i := 13) rfl))) (Or.inl (hw _ (List.mem_of_getElem? (i := 28) rfl))) (by decide) (t := (.array .long)) (t' := (.array .int)) (by decide) (by decide)))
  have F_passes := F_passes.other W36 (Or.inr (slot_ne (Or.inl (hw _ (List.mem_of_getElem? (i := 15) rfl))) (Or.inl (hw _ (List.mem_of_getElem? (i := 28) rfl))) (by decide) (t := (.array .long)) (t' := (.array .int)) (by decide) (by decide)))
  have F_firstPositives := F_firstPositives.other W36 (Or.inr (slot_ne (Or.inl (hw _ (List.mem_of_getElem? (i := 17) rfl))) (Or.inl (hw _ (List.mem_of_getElem? (i := 28) rfl))) (by decide) (t := (.array .long)) (t' := (.array .int)) (by decide) (by decide)))
  have F_firstNegatives := F_firstNegatives.other W36 (Or.inr (slot_ne (Or.inl (hw _ (List.mem_of_getElem? (i := 19) rfl))) (Or.inl (hw _ (List.mem_of_getElem? (i := 28) rfl))) (by decide) (t := (.array .long)) (t' := (.array .int)) (by decide) (by decide)))
  have F_sharedStateOf := F_sharedStateOf.other W36 (Or.inr (slot_ne (Or.inl (hw _ (List.mem_of_getElem? (i := 22) rfl))) (Or.inl (hw _ (List.mem_of_getElem? (i := 28) rfl))) (by decide) (t := (.array .int)) (t' := (.array .int)) (by decide) (by decide)))
  have F_ownStateOf := F_ownStateOf.other W36 (Or.inr (slot_ne (Or.inl (hw _ (List.mem_of_getElem? (i := 24) rfl))) (Or.inl (hw _ (List.mem_of_getElem? (i := 28) rfl))) (by decide) (t := (.array .int)) (t' := (.array .int)) (by decide) (by decide)))
  have F_slotOf := F_slotOf.other W36 (Or.inr (slot_ne (Or.inl (hw _ (List.mem_of_getElem? (i := 30) rfl))) (Or.inl (hw _ (List.mem_of_getElem? (i := 28) rfl))) (by decide) (t := (.array .int)) (t' := (.array .int)) (by decide) (by decide)))
  have F_keys := F_keys.other W36 (Or.inr (slot_ne (Or.inl (hw _ (List.mem_of_getElem? (i := 26) rfl))) (Or.inl (hw _ (List.mem_of_getElem? (i := 28) rfl))) (by decide) (t := (.array .long)) (t' := (.array .int)) (by decide) (by decide)))
  have F_sharedStates := F_sharedStates.other W36 (Or.inr (slot_ne (Or.inl (hw _ (List.mem_of_getElem? (i := 37) rfl))) (Or.inl (hw _ (List.mem_of_getElem? (i := 28) rfl))) (by decide) (t := .int) (t' := (.array .int)) (by decide) (by decide)))
  have F_count := F_count.other W36 (Or.inr (slot_ne (Or.inl (hw _ (List.mem_of_getElem? (i := 39) rfl))) (Or.inl (hw _ (List.mem_of_getElem? (i := 28) rfl))) (by decide) (t := .int) (t' := (.array .int)) (by decide) (by decide)))
  have V_b2 := V_b2.other W36 (Ne.symm ne_a_b2)
  have V_b6 := V_b6.other W36 (Ne.symm ne_a_b6)
  have V_b10 := V_b10.other W36 (Ne.symm ne_a_b10)
  have V_b14 := V_b14.other W36 (Ne.symm ne_a_b14)
  have V_b18 := V_b18.other W36 (Ne.symm ne_a_b18)
  have V_b22 := V_b22.other W36 (Ne.symm ne_a_b22)
  have V_b26 := V_b26.other W36 (Ne.symm ne_a_b26)
  have V_b30 := V_b30.other W36 (Ne.symm ne_a_b30)
  have V_b34 := V_b34.other W36 (Ne.symm ne_a_b34)
  have Z37 : n0 ≤ h36.size := Nat.le_trans Z35 (Keep.of_wr W36).1
  have KP := KP.wr W36 (Or.inl (List.mem_of_getElem? (i := 0) rfl))
  have F_numbers := F_numbers.same W36
  have N36 := Fr.snoc X36 N32 g
  obtain ⟨T38, h38, k38, X38, e38, E38, A38, st38⟩ := newP X36 hx hZ (hw _ (List.mem_of_getElem? (i := 20) rfl)) e36 (g := (mkF m 71 #[.val (.ref a)] [(.int (0 : Int32)), (.ref a)])) rfl (hb hby own_d1_71) rfl (by decide) (cap := 0) (by decide) (by decide) (by decide) (by decide)
  obtain ⟨b38, g38⟩ : ∃ z, z = h36.size := ⟨_, rfl⟩
  rw [← g38] at A38 st38
  have g_b38 : n0 ≤ b38 := Nat.le_trans Z37 (Nat.le_of_eq g38.symm)
  have sz_b38 : h0.size ≤ b38 := Nat.le_trans KP.1 (Nat.le_of_eq g38.symm)
  have ne_a_b38 : a ≠ b38 := Nat.ne_of_lt (Nat.lt_of_lt_of_le E.lt (Nat.le_of_eq g38.symm))
  have ne_b2_b38 : b2 ≠ b38 := Nat.ne_of_lt (Nat.lt_of_lt_of_le V_b2.lt (Nat.le_of_eq g38.symm))
  have ne_b6_b38 : b6 ≠ b38 := Nat.ne_of_lt (Nat.lt_of_lt_of_le V_b6.lt (Nat.le_of_eq g38.symm))
  have ne_b10_b38 : b10 ≠ b38 := Nat.ne_of_lt (Nat.lt_of_lt_of_le V_b10.lt (Nat.le_of_eq g38.symm))
  have ne_b14_b38 : b14 ≠ b38 := Nat.ne_of_lt (Nat.lt_of_lt_of_le V_b14.lt (Nat.le_of_eq g38.symm))
  have ne_b18_b38 : b18 ≠ b38 := Nat.ne_of_lt (Nat.lt_of_lt_of_le V_b18.lt (Nat.le_of_eq g38.symm))
  have ne_b22_b38 : b22 ≠ b38 := Nat.ne_of_lt (Nat.lt_of_lt_of_le V_b22.lt (Nat.le_of_eq g38.symm))
  have ne_b26_b38 : b26 ≠ b38 := Nat.ne_of_lt (Nat.lt_of_lt_of_le V_b26.lt (Nat.le_of_eq g38.symm))
  have ne_b30_b38 : b30 ≠ b38 := Nat.ne_of_lt (Nat.lt_of_lt_of_le V_b30.lt (Nat.le_of_eq g38.symm))
  have ne_b34_b38 : b34 ≠ b38 := Nat.ne_of_lt (Nat.lt_of_lt_of_le V_b34.lt (Nat.le_of_eq g38.symm))
  have E := E.ext E38
  have F_positives := F_positives.ext E38
  have F_negatives := F_negatives.ext E38
  have F_passes := F_passes.ext E38
  have F_firstPositives := F_firstPositives.ext E38
  have F_firstNegatives := F_firstNegatives.ext E38
  have F_sharedStateOf := F_sharedStateOf.ext E38
  have F_ownStateOf := F_ownStateOf.ext E38
  have F_slotOf := F_slotOf.ext E38
  have F_keys := F_keys.ext E38
  have F_numbers := F_numbers.ext E38
  have F_sharedStates := F_sharedStates.ext E38
  have F_count := F_count.ext E38
  have V_b2 := V_b2.ext E38
  have V_b6 := V_b6.ext E38
  have V_b10 := V_b10.ext E38
  have V_b14 := V_b14.ext E38
  have V_b18 := V_b18.ext E38
  have V_b22 := V_b22.ext E38
  have V_b26 := V_b26.ext E38
  have V_b30 := V_b30.ext E38
  have V_b34 := V_b34.ext E38
  have Z39 : n0 ≤ h38.size := Nat.le_trans Z37 E38.1
  have KP := KP.ext E38
  have V_b38 : Arv Z h38 b38 k38 .int (0 : Int32) [] (.int (0 : Int32)) := (Arv.new A38 (by decide)).pad (pad_rep [] (.int (0 : Int32)) 0)
  obtain ⟨T40, h40, X40, e40, W40, st40⟩ := putF X38 hx hZ hown (host := "") (Or.inl (hw _ (List.mem_of_getElem? (i := 29) rfl))) Via.refl e38 F_slotOf E (Or.inl (hw _ (List.mem_of_getElem? (i := 30) rfl))) (hw _ (List.mem_of_getElem? (i := 1) rfl)) (ty := (.array .int)) (by decide) rfl rfl (g := (mkF m 73 #[.val (.ref a)] [(.ref b38), (.ref a)])) rfl rfl (hb hby own_d1_73)
  have E := E.wr W40
  have F_positives := F_positives.other W40 (Or.inr (slot_ne (Or.inl (hw _ (List.mem_of_getElem? (i := 11) rfl))) (Or.inl (hw _ (List.mem_of_getElem? (i := 30) rfl))) (by decide) (t := (.array .long)) (t' := (.array .int)) (by decide) (by decide)))
  have F_negatives := F_negatives.other W40 (Or.inr (slot_ne (Or.inl (hw _ (List.mem_of_getElem? (i := 13) rfl))) (Or.inl (hw _ (List.mem_of_getElem? (i := 30) rfl))) (by decide) (t := (.array .long)) (t' := (.array .int)) (by decide) (by decide)))
  have F_passes := F_passes.other W40 (Or.inr (slot_ne (Or.inl (hw _ (List.mem_of_getElem? (i := 15) rfl))) (Or.inl (hw _ (List.mem_of_getElem? (i := 30) rfl))) (by decide) (t := (.array .long)) (t' := (.array .int)) (by decide) (by decide)))
  have F_firstPositives := F_firstPositives.other W40 (Or.inr (slot_ne (Or.inl (hw _ (List.mem_of_getElem? (i := 17) rfl))) (Or.inl (hw _ (List.mem_of_getElem? (i := 30) rfl))) (by decide) (t := (.array .long)) (t' := (.array .int)) (by decide) (by decide)))
  have F_firstNegatives := F_firstNegatives.other W40 (Or.inr (slot_ne (Or.inl (hw _ (List.mem_of_getElem? (i := 19) rfl))) (Or.inl (hw _ (List.mem_of_getElem? (i := 30) rfl))) (by decide) (t := (.array .long)) (t' := (.array .int)) (by decide) (by decide)))
  have F_sharedStateOf := F_sharedStateOf.other W40 (Or.inr (slot_ne (Or.inl (hw _ (List.mem_of_getElem? (i := 22) rfl))) (Or.inl (hw _ (List.mem_of_getElem? (i := 30) rfl))) (by decide) (t := (.array .int)) (t' := (.array .int)) (by decide) (by decide)))
  have F_ownStateOf := F_ownStateOf.other W40 (Or.inr (slot_ne (Or.inl (hw _ (List.mem_of_getElem? (i := 24) rfl))) (Or.inl (hw _ (List.mem_of_getElem? (i := 30) rfl))) (by decide) (t := (.array .int)) (t' := (.array .int)) (by decide) (by decide)))
  have F_keys := F_keys.other W40 (Or.inr (slot_ne (Or.inl (hw _ (List.mem_of_getElem? (i := 26) rfl))) (Or.inl (hw _ (List.mem_of_getElem? (i := 30) rfl))) (by decide) (t := (.array .long)) (t' := (.array .int)) (by decide) (by decide)))
  have F_numbers := F_numbers.other W40 (Or.inr (slot_ne (Or.inl (hw _ (List.mem_of_getElem? (i := 28) rfl))) (Or.inl (hw _ (List.mem_of_getElem? (i := 30) rfl))) (by decide) (t := (.array .int)) (t' := (.array .int)) (by decide) (by decide)))
  have F_sharedStates := F_sharedStates.other W40 (Or.inr (slot_ne (Or.inl (hw _ (List.mem_of_getElem? (i := 37) rfl))) (Or.inl (hw _ (List.mem_of_getElem? (i := 30) rfl))) (by decide) (t := .int) (t' := (.array .int)) (by decide) (by decide)))
  have F_count := F_count.other W40 (Or.inr (slot_ne (Or.inl (hw _ (List.mem_of_getElem? (i := 39) rfl))) (Or.inl (hw _ (List.mem_of_getElem? (i := 30) rfl))) (by decide) (t := .int) (t' := (.array .int)) (by decide) (by decide)))
  have V_b2 := V_b2.other W40 (Ne.symm ne_a_b2)
  have V_b6 := V_b6.other W40 (Ne.symm ne_a_b6)
  have V_b10 := V_b10.other W40 (Ne.symm ne_a_b10)
  have V_b14 := V_b14.other W40 (Ne.symm ne_a_b14)
  have V_b18 := V_b18.other W40 (Ne.symm ne_a_b18)
  have V_b22 := V_b22.other W40 (Ne.symm ne_a_b22)
  have V_b26 := V_b26.other W40 (Ne.symm ne_a_b26)
  have V_b30 := V_b30.other W40 (Ne.symm ne_a_b30)
  have V_b34 := V_b34.other W40 (Ne.symm ne_a_b34)
  have V_b38 := V_b38.other W40 (Ne.symm ne_a_b38)
  have Z41 : n0 ≤ h40.size := Nat.le_trans Z39 (Keep.of_wr W40).1
  have KP := KP.wr W40 (Or.inl (List.mem_of_getElem? (i := 0) rfl))
  have F_slotOf := F_slotOf.same W40
  have N40 := Fr.snoc X40 N36 g
  obtain ⟨fs, hr, hrun, hended, hW, hsame⟩ := X40.leave (v := none) (fun _ => rfl)
  refine ⟨_, _, pre0 _ ?_, hrun, hended, _, _, rfl, ?_, ⟨_, rfl⟩, hW, hsame.mono (by decide) (by decide)⟩
  · show Steps p.tables e below (s₁.setTop (mkF m 0 #[.val (.ref a)] [])) _
    refine XS.aloadN X0.here hx rfl (hb hby own_d1_0) rfl rfl ?_
    show Steps p.tables e below (s₁.setTop (mkF m 1 #[.val (.ref a)] [(.ref a)])) _
    refine st1 _ ?_
    show Steps p.tables e below (T1.setTop (mkF m 4 #[.val (.ref a)] [])) _
    refine XS.aloadN X1.here hx rfl (hb hby own_d1_4) rfl rfl ?_
    show Steps p.tables e below (T1.setTop (mkF m 5 #[.val (.ref a)] [(.ref a)])) _
    refine XS.iconst X1.here hx rfl (hb hby own_d1_5) ?_
    show Steps p.tables e below (T1.setTop (mkF m 6 #[.val (.ref a)] [(.int (0 : Int32)), (.ref a)])) _
    refine st2 _ ?_
    show Steps p.tables e below (T2.setTop (mkF m 8 #[.val (.ref a)] [(.ref b2), (.ref a)])) _
    refine st4 _ ?_
    show Steps p.tables e below (T4.setTop (mkF m 11 #[.val (.ref a)] [])) _
    refine XS.aloadN X4.here hx rfl (hb hby own_d1_11) rfl rfl ?_
    show Steps p.tables e below (T4.setTop (mkF m 12 #[.val (.ref a)] [(.ref a)])) _
    refine XS.iconst X4.here hx rfl (hb hby own_d1_12) ?_
    show Steps p.tables e below (T4.setTop (mkF m 13 #[.val (.ref a)] [(.int (0 : Int32)), (.ref a)])) _
    refine st6 _ ?_
    show Steps p.tables e below (T6.setTop (mkF m 15 #[.val (.ref a)] [(.ref b6), (.ref a)])) _
    refine st8 _ ?_
    show Steps p.tables e below (T8.setTop (mkF m 18 #[.val (.ref a)] [])) _
    refine XS.aloadN X8.here hx rfl (hb hby own_d1_18) rfl rfl ?_
    show Steps p.tables e below (T8.setTop (mkF m 19 #[.val (.ref a)] [(.ref a)])) _
    refine XS.iconst X8.here hx rfl (hb hby own_d1_19) ?_
    show Steps p.tables e below (T8.setTop (mkF m 20 #[.val (.ref a)] [(.int (0 : Int32)), (.ref a)])) _
    refine st10 _ ?_
    show Steps p.tables e below (T10.setTop (mkF m 22 #[.val (.ref a)] [(.ref b10), (.ref a)])) _
    refine st12 _ ?_
    show Steps p.tables e below (T12.setTop (mkF m 25 #[.val (.ref a)] [])) _
    refine XS.aloadN X12.here hx rfl (hb hby own_d1_25) rfl rfl ?_
    show Steps p.tables e below (T12.setTop (mkF m 26 #[.val (.ref a)] [(.ref a)])) _
    refine XS.iconst X12.here hx rfl (hb hby own_d1_26) ?_
    show Steps p.tables e below (T12.setTop (mkF m 27 #[.val (.ref a)] [(.int (0 : Int32)), (.ref a)])) _
    refine st14 _ ?_
    show Steps p.tables e below (T14.setTop (mkF m 29 #[.val (.ref a)] [(.ref b14), (.ref a)])) _
    refine st16 _ ?_
    show Steps p.tables e below (T16.setTop (mkF m 32 #[.val (.ref a)] [])) _
    refine XS.aloadN X16.here hx rfl (hb hby own_d1_32) rfl rfl ?_
    show Steps p.tables e below (T16.setTop (mkF m 33 #[.val (.ref a)] [(.ref a)])) _
    refine XS.iconst X16.here hx rfl (hb hby own_d1_33) ?_
    show Steps p.tables e below (T16.setTop (mkF m 34 #[.val (.ref a)] [(.int (0 : Int32)), (.ref a)])) _
    refine st18 _ ?_
    show Steps p.tables e below (T18.setTop (mkF m 36 #[.val (.ref a)] [(.ref b18), (.ref a)])) _
    refine st20 _ ?_
    show Steps p.tables e below (T20.setTop (mkF m 39 #[.val (.ref a)] [])) _
    refine XS.aloadN X20.here hx rfl (hb hby own_d1_39) rfl rfl ?_
    show Steps p.tables e below (T20.setTop (mkF m 40 #[.val (.ref a)] [(.ref a)])) _
    refine XS.iconst X20.here hx rfl (hb hby own_d1_40) ?_
    show Steps p.tables e below (T20.setTop (mkF m 41 #[.val (.ref a)] [(.int (0 : Int32)), (.ref a)])) _
    refine st22 _ ?_
    show Steps p.tables e below (T22.setTop (mkF m 43 #[.val (.ref a)] [(.ref b22), (.ref a)])) _
    refine st24 _ ?_
    show Steps p.tables e below (T24.setTop (mkF m 46 #[.val (.ref a)] [])) _
    refine XS.aloadN X24.here hx rfl (hb hby own_d1_46) rfl rfl ?_
    show Steps p.tables e below (T24.setTop (mkF m 47 #[.val (.ref a)] [(.ref a)])) _
    refine XS.iconst X24.here hx rfl (hb hby own_d1_47) ?_
    show Steps p.tables e below (T24.setTop (mkF m 48 #[.val (.ref a)] [(.int (0 : Int32)), (.ref a)])) _
    refine st26 _ ?_
    show Steps p.tables e below (T26.setTop (mkF m 50 #[.val (.ref a)] [(.ref b26), (.ref a)])) _
    refine st28 _ ?_
    show Steps p.tables e below (T28.setTop (mkF m 53 #[.val (.ref a)] [])) _
    refine XS.aloadN X28.here hx rfl (hb hby own_d1_53) rfl rfl ?_
    show Steps p.tables e below (T28.setTop (mkF m 54 #[.val (.ref a)] [(.ref a)])) _
    refine XS.bipush X28.here hx rfl (hb hby own_d1_54) ?_
    show Steps p.tables e below (T28.setTop (mkF m 56 #[.val (.ref a)] [(.int (16 : Int32)), (.ref a)])) _
    refine st30 _ ?_
    show Steps p.tables e below (T30.setTop (mkF m 58 #[.val (.ref a)] [(.ref b30), (.ref a)])) _
    refine st32 _ ?_
    show Steps p.tables e below (T32.setTop (mkF m 61 #[.val (.ref a)] [])) _
    refine XS.aloadN X32.here hx rfl (hb hby own_d1_61) rfl rfl ?_
    show Steps p.tables e below (T32.setTop (mkF m 62 #[.val (.ref a)] [(.ref a)])) _
    refine XS.bipush X32.here hx rfl (hb hby own_d1_62) ?_
    show Steps p.tables e below (T32.setTop (mkF m 64 #[.val (.ref a)] [(.int (16 : Int32)), (.ref a)])) _
    refine st34 _ ?_
    show Steps p.tables e below (T34.setTop (mkF m 66 #[.val (.ref a)] [(.ref b34), (.ref a)])) _
    refine st36 _ ?_
    show Steps p.tables e below (T36.setTop (mkF m 69 #[.val (.ref a)] [])) _
    refine XS.aloadN X36.here hx rfl (hb hby own_d1_69) rfl rfl ?_
    show Steps p.tables e below (T36.setTop (mkF m 70 #[.val (.ref a)] [(.ref a)])) _
    refine XS.iconst X36.here hx rfl (hb hby own_d1_70) ?_
    show Steps p.tables e below (T36.setTop (mkF m 71 #[.val (.ref a)] [(.int (0 : Int32)), (.ref a)])) _
    refine st38 _ ?_
    show Steps p.tables e below (T38.setTop (mkF m 73 #[.val (.ref a)] [(.ref b38), (.ref a)])) _
    refine st40 _ ?_
    show Steps p.tables e below (T40.setTop (mkF m 76 #[.val (.ref a)] [])) _
    exact X40.returnOut hx Bd.returns (hb hby own_d1_76) hr
  · show own_Q_own_init Z a h0 n0 _ T40.heap _
    rw [e40]
    exact ⟨b2, b6, b10, b14, b18, b22, b26, b38, _, _, _, _, _, _, _, _, rfl, N40, KP, E, F_positives, F_negatives, F_passes, F_firstPositives, F_firstNegatives, F_sharedStateOf, F_ownStateOf, F_slotOf, F_sharedStates, F_count, V_b2, V_b6, V_b10, V_b14, V_b18, V_b22, V_b26, V_b38⟩
theorem own_d5_0 : decode jdk_29_method_65_code 0 = .ok (.iload_n 0, 1) := by decide +kernel
theorem own_d5_1 : decode jdk_29_method_65_code 1 = .ok (.iload_n 1, 1) := by decide +kernel
theorem own_d5_2 : decode jdk_29_method_65_code 2 = .ok (.if_icmp .lt 7, 3) := by decide +kernel
theorem own_d5_5 : decode jdk_29_method_65_code 5 = .ok (.iload_n 0, 1) := by decide +kernel
theorem own_d5_6 : decode jdk_29_method_65_code 6 = .ok (.goto 4, 3) := by decide +kernel
theorem own_d5_10 : decode jdk_29_method_65_code 10 = .ok (.ireturn, 1) := by decide +kernel
theorem own_ef5 (m : MethodId) (x0 : Int32) (x1 : Int32) : entryFrame m #[(.int x0), (.int x1)] 2 = mkF m 0 #[.val (.int x0), .val (.int x1)] [] := by first | (simp [entryFrame, mkF, argsToLocals, Value.category]; done) | rfl
def own_Q_own_max20 (Z : State) (h0 : Heap) (n0 : Nat) (v : Option Value) (h : Heap) (L : List Loc) : Prop := v = some (.int (2 : Int32)) ∧ Fr n0 L ∧ h = h0
set_option maxRecDepth 65536 in
set_option maxHeartbeats 40000000 in
theorem own_max20 (l : Launch) (Z : State) (a0 : Array Value) (hw : ∀ d ∈ tables_1, d.before a0 Z = true) (ws : List Jvm.Cond) (h0 : Heap) (n0 : Nat) (Z0 : n0 ≤ h0.size) :
    MetFree l (⟨"java/lang/Math", "max", "(II)I"⟩ : MethodName) (head1 (Jvm.Cond.code (⟨"java/lang/Math", "max", "(II)I"⟩ : MethodName) jdk_29_method_65_code 2 (some .int) :: ws) ({ frames := 0, cells := 0, slots := 0, locals := 0 } : Room)) (fun as_ U => as_ = #[(.int (2 : Int32)), (.int (0 : Int32))] ∧ Z.Warmed39 U.vm ∧ U.heap = h0) (fun _ _ _ _ _ => True) (fun _ U o U' => ∃ v L, o = .returned v ∧ own_Q_own_max20 Z  h0 n0 v U'.heap L ∧ FrameEnd U o U' L ({ frames := 0, cells := 0, slots := 0, locals := 0 } : Room).cells ({ frames := 0, cells := 0, slots := 0, locals := 0 } : Room).slots) := by
  refine MetFree.of_bodySF (Jvm.Free.JP.mathPlain rfl (by decide +kernel)) hisR ?_
  intro p e s m args below meth c s₁ Bd hml0 hP hK
  obtain ⟨rfl, hZ, hh⟩ := hP
  have hx := Bd.exec
  have hby := Bd.bytes
  have hml : c.maxLocals = 2 := hml0
  have hown : s.vm.findClass "java/lang/Math" = some m.cls := findClass_of_methodNamed Bd.named
  have hnm := (name_of_methodNamed Bd.named Bd.method).1
  have X0 : Stand p l e ({ frames := 0, cells := 0, slots := 0, locals := 0 } : Room) s m #[(.int (2 : Int32)), (.int (0 : Int32))] below meth c s₁ [] 0 0 := Stand.of_body Bd
  have e0 : s₁.heap = h0 := by rw [← hh, Bd.state]; rfl
  have N0 := Fr.nil n0
  have pre0 : ∀ t, Steps p.tables e below (s₁.setTop (mkF m 0 #[.val (.int (2 : Int32)), .val (.int (0 : Int32))] [])) t → Steps p.tables e below (s₁.setTop (entryFrame m #[(.int (2 : Int32)), (.int (0 : Int32))] 2)) t := fun t k => castTop (own_ef5 m (2 : Int32) (0 : Int32)) k
  obtain ⟨fs, hr, hrun, hended, hW, hsame⟩ := X0.leave (v := some (.int (2 : Int32))) (fun h => by rw [Bd.returns] at h; cases h)
  refine ⟨_, _, pre0 _ ?_, hrun, hended, _, _, rfl, ?_, ⟨_, rfl⟩, hW, hsame.mono (by decide) (by decide)⟩
  · show Steps p.tables e below (s₁.setTop (mkF m 0 #[.val (.int (2 : Int32)), .val (.int (0 : Int32))] [])) _
    refine XS.iloadN X0.here hx rfl (hb hby own_d5_0) rfl ?_
    show Steps p.tables e below (s₁.setTop (mkF m 1 #[.val (.int (2 : Int32)), .val (.int (0 : Int32))] [(.int (2 : Int32))])) _
    refine XS.iloadN X0.here hx rfl (hb hby own_d5_1) rfl ?_
    show Steps p.tables e below (s₁.setTop (mkF m 2 #[.val (.int (2 : Int32)), .val (.int (0 : Int32))] [(.int (0 : Int32)), (.int (2 : Int32))])) _
    refine XS.icmpNo X0.here hx rfl (hb hby own_d5_2) rfl (flt (by decide : ¬ ((2 : Int32) < (0 : Int32)))).1 ?_
    show Steps p.tables e below (s₁.setTop (mkF m 5 #[.val (.int (2 : Int32)), .val (.int (0 : Int32))] [])) _
    refine XS.iloadN X0.here hx rfl (hb hby own_d5_5) rfl ?_
    show Steps p.tables e below (s₁.setTop (mkF m 6 #[.val (.int (2 : Int32)), .val (.int (0 : Int32))] [(.int (2 : Int32))])) _
    refine XS.goto X0.here hx rfl (pc0 := 6) (pc' := 10) rfl (hb hby own_d5_6) (by decide) (by decide) ?_
    show Steps p.tables e below (s₁.setTop (mkF m 10 #[.val (.int (2 : Int32)), .val (.int (0 : Int32))] [(.int (2 : Int32))])) _
    exact retI X0 hx Bd.returns (hb hby own_d5_10) hr
  · show own_Q_own_max20 Z  h0 n0 _ s₁.heap _
    rw [e0]
    exact ⟨rfl, N0, rfl⟩
theorem own_d7_0 : decode jdk_29_method_69_code 0 = .ok (.iload_n 0, 1) := by decide +kernel
theorem own_d7_1 : decode jdk_29_method_69_code 1 = .ok (.iload_n 1, 1) := by decide +kernel
theorem own_d7_2 : decode jdk_29_method_69_code 2 = .ok (.if_icmp .gt 7, 3) := by decide +kernel
theorem own_d7_5 : decode jdk_29_method_69_code 5 = .ok (.iload_n 0, 1) := by decide +kernel
theorem own_d7_6 : decode jdk_29_method_69_code 6 = .ok (.goto 4, 3) := by decide +kernel
theorem own_d7_10 : decode jdk_29_method_69_code 10 = .ok (.ireturn, 1) := by decide +kernel
theorem own_ef7 (m : MethodId) (x0 : Int32) (x1 : Int32) : entryFrame m #[(.int x0), (.int x1)] 2 = mkF m 0 #[.val (.int x0), .val (.int x1)] [] := by first | (simp [entryFrame, mkF, argsToLocals, Value.category]; done) | rfl
def own_Q_own_min02 (Z : State) (h0 : Heap) (n0 : Nat) (v : Option Value) (h : Heap) (L : List Loc) : Prop := v = some (.int (0 : Int32)) ∧ Fr n0 L ∧ h = h0
set_option maxRecDepth 65536 in
set_option maxHeartbeats 40000000 in
theorem own_min02 (l : Launch) (Z : State) (a0 : Array Value) (hw : ∀ d ∈ tables_1, d.before a0 Z = true) (ws : List Jvm.Cond) (h0 : Heap) (n0 : Nat) (Z0 : n0 ≤ h0.size) :
    MetFree l (⟨"java/lang/Math", "min", "(II)I"⟩ : MethodName) (head1 (Jvm.Cond.code (⟨"java/lang/Math", "min", "(II)I"⟩ : MethodName) jdk_29_method_69_code 2 (some .int) :: ws) ({ frames := 0, cells := 0, slots := 0, locals := 0 } : Room)) (fun as_ U => as_ = #[(.int (0 : Int32)), (.int (2 : Int32))] ∧ Z.Warmed39 U.vm ∧ U.heap = h0) (fun _ _ _ _ _ => True) (fun _ U o U' => ∃ v L, o = .returned v ∧ own_Q_own_min02 Z  h0 n0 v U'.heap L ∧ FrameEnd U o U' L ({ frames := 0, cells := 0, slots := 0, locals := 0 } : Room).cells ({ frames := 0, cells := 0, slots := 0, locals := 0 } : Room).slots) := by
  refine MetFree.of_bodySF (Jvm.Free.JP.mathPlain rfl (by decide +kernel)) hisR ?_
  intro p e s m args below meth c s₁ Bd hml0 hP hK
  obtain ⟨rfl, hZ, hh⟩ := hP
  have hx := Bd.exec
  have hby := Bd.bytes
  have hml : c.maxLocals = 2 := hml0
  have hown : s.vm.findClass "java/lang/Math" = some m.cls := findClass_of_methodNamed Bd.named
  have hnm := (name_of_methodNamed Bd.named Bd.method).1
  have X0 : Stand p l e ({ frames := 0, cells := 0, slots := 0, locals := 0 } : Room) s m #[(.int (0 : Int32)), (.int (2 : Int32))] below meth c s₁ [] 0 0 := Stand.of_body Bd
  have e0 : s₁.heap = h0 := by rw [← hh, Bd.state]; rfl
  have N0 := Fr.nil n0
  have pre0 : ∀ t, Steps p.tables e below (s₁.setTop (mkF m 0 #[.val (.int (0 : Int32)), .val (.int (2 : Int32))] [])) t → Steps p.tables e below (s₁.setTop (entryFrame m #[(.int (0 : Int32)), (.int (2 : Int32))] 2)) t := fun t k => castTop (own_ef7 m (0 : Int32) (2 : Int32)) k
  obtain ⟨fs, hr, hrun, hended, hW, hsame⟩ := X0.leave (v := some (.int (0 : Int32))) (fun h => by rw [Bd.returns] at h; cases h)
  refine ⟨_, _, pre0 _ ?_, hrun, hended, _, _, rfl, ?_, ⟨_, rfl⟩, hW, hsame.mono (by decide) (by decide)⟩
  · show Steps p.tables e below (s₁.setTop (mkF m 0 #[.val (.int (0 : Int32)), .val (.int (2 : Int32))] [])) _
    refine XS.iloadN X0.here hx rfl (hb hby own_d7_0) rfl ?_
    show Steps p.tables e below (s₁.setTop (mkF m 1 #[.val (.int (0 : Int32)), .val (.int (2 : Int32))] [(.int (0 : Int32))])) _
    refine XS.iloadN X0.here hx rfl (hb hby own_d7_1) rfl ?_
    show Steps p.tables e below (s₁.setTop (mkF m 2 #[.val (.int (0 : Int32)), .val (.int (2 : Int32))] [(.int (2 : Int32)), (.int (0 : Int32))])) _
    refine XS.icmpNo X0.here hx rfl (hb hby own_d7_2) rfl (flt (by decide : ¬ ((2 : Int32) < (0 : Int32)))).2.2.1 ?_
    show Steps p.tables e below (s₁.setTop (mkF m 5 #[.val (.int (0 : Int32)), .val (.int (2 : Int32))] [])) _
    refine XS.iloadN X0.here hx rfl (hb hby own_d7_5) rfl ?_
    show Steps p.tables e below (s₁.setTop (mkF m 6 #[.val (.int (0 : Int32)), .val (.int (2 : Int32))] [(.int (0 : Int32))])) _
    refine XS.goto X0.here hx rfl (pc0 := 6) (pc' := 10) rfl (hb hby own_d7_6) (by decide) (by decide) ?_
    show Steps p.tables e below (s₁.setTop (mkF m 10 #[.val (.int (0 : Int32)), .val (.int (2 : Int32))] [(.int (0 : Int32))])) _
    exact retI X0 hx Bd.returns (hb hby own_d7_10) hr
  · show own_Q_own_min02 Z  h0 n0 _ s₁.heap _
    rw [e0]
    exact ⟨rfl, N0, rfl⟩
theorem own_d11_0 : decode jdk_29_method_70_code 0 = .ok (.lload_n 0, 1) := by decide +kernel
theorem own_d11_1 : decode jdk_29_method_70_code 1 = .ok (.lload_n 2, 1) := by decide +kernel
theorem own_d11_2 : decode jdk_29_method_70_code 2 = .ok (.lcmp, 1) := by decide +kernel
theorem own_d11_3 : decode jdk_29_method_70_code 3 = .ok (.ifCond .gt 7, 3) := by decide +kernel
theorem own_d11_6 : decode jdk_29_method_70_code 6 = .ok (.lload_n 0, 1) := by decide +kernel
theorem own_d11_7 : decode jdk_29_method_70_code 7 = .ok (.goto 4, 3) := by decide +kernel
theorem own_d11_10 : decode jdk_29_method_70_code 10 = .ok (.lload_n 2, 1) := by decide +kernel
theorem own_d11_11 : decode jdk_29_method_70_code 11 = .ok (.lreturn, 1) := by decide +kernel
theorem own_ef11 (m : MethodId) (x0 : Int64) (x1 : Int64) : entryFrame m #[(.long x0), (.long x1)] 4 = mkF m 0 #[.val (.long x0), .second, .val (.long x1), .second] [] := by first | (simp [entryFrame, mkF, argsToLocals, Value.category]; done) | rfl
def own_Q_own_minL (Z : State) (u : Int64) (w : Int64) (h0 : Heap) (n0 : Nat) (v : Option Value) (h : Heap) (L : List Loc) : Prop := v = some (.long (if w < u then w else u)) ∧ Fr n0 L ∧ h = h0
set_option maxRecDepth 65536 in
set_option maxHeartbeats 40000000 in
theorem own_minL (l : Launch) (Z : State) (a0 : Array Value) (hw : ∀ d ∈ tables_1, d.before a0 Z = true) (ws : List Jvm.Cond) (u : Int64) (w : Int64) (h0 : Heap) (n0 : Nat) (Z0 : n0 ≤ h0.size) :
    MetFree l (⟨"java/lang/Math", "min", "(JJ)J"⟩ : MethodName) (head1 (Jvm.Cond.code (⟨"java/lang/Math", "min", "(JJ)J"⟩ : MethodName) jdk_29_method_70_code 4 (some .long) :: ws) ({ frames := 0, cells := 0, slots := 0, locals := 0 } : Room)) (fun as_ U => as_ = #[(.long u), (.long w)] ∧ Z.Warmed39 U.vm ∧ U.heap = h0) (fun _ _ _ _ _ => True) (fun _ U o U' => ∃ v L, o = .returned v ∧ own_Q_own_minL Z u w h0 n0 v U'.heap L ∧ FrameEnd U o U' L ({ frames := 0, cells := 0, slots := 0, locals := 0 } : Room).cells ({ frames := 0, cells := 0, slots := 0, locals := 0 } : Room).slots) := by
  refine MetFree.of_bodySF (Jvm.Free.JP.mathPlain rfl (by decide +kernel)) hisR ?_
  intro p e s m args below meth c s₁ Bd hml0 hP hK
  obtain ⟨rfl, hZ, hh⟩ := hP
  have hx := Bd.exec
  have hby := Bd.bytes
  have hml : c.maxLocals = 4 := hml0
  have hown : s.vm.findClass "java/lang/Math" = some m.cls := findClass_of_methodNamed Bd.named
  have hnm := (name_of_methodNamed Bd.named Bd.method).1
  have X0 : Stand p l e ({ frames := 0, cells := 0, slots := 0, locals := 0 } : Room) s m #[(.long u), (.long w)] below meth c s₁ [] 0 0 := Stand.of_body Bd
  have e0 : s₁.heap = h0 := by rw [← hh, Bd.state]; rfl
  have N0 := Fr.nil n0
  have pre0 : ∀ t, Steps p.tables e below (s₁.setTop (mkF m 0 #[.val (.long u), .second, .val (.long w), .second] [])) t → Steps p.tables e below (s₁.setTop (entryFrame m #[(.long u), (.long w)] 4)) t := fun t k => castTop (own_ef11 m u w) k
  have pre1 : ∀ t, Steps p.tables e below (s₁.setTop (mkF m 3 #[.val (.long u), .second, .val (.long w), .second] [(.int (lcmpW u w))])) t → Steps p.tables e below (s₁.setTop (entryFrame m #[(.long u), (.long w)] 4)) t := fun t k => pre0 t (by
    show Steps p.tables e below (s₁.setTop (mkF m 0 #[.val (.long u), .second, .val (.long w), .second] [])) _
    refine XS.lloadN X0.here hx rfl (hb hby own_d11_0) rfl ?_
    show Steps p.tables e below (s₁.setTop (mkF m 1 #[.val (.long u), .second, .val (.long w), .second] [(.long u)])) _
    refine XS.lloadN X0.here hx rfl (hb hby own_d11_1) rfl ?_
    show Steps p.tables e below (s₁.setTop (mkF m 2 #[.val (.long u), .second, .val (.long w), .second] [(.long w), (.long u)])) _
    refine XS.lcmp X0.here hx rfl (hb hby own_d11_2) rfl ?_
    show Steps p.tables e below (s₁.setTop (mkF m 3 #[.val (.long u), .second, .val (.long w), .second] [(.int (lcmpW u w))])) _
    exact k)
  by_cases hc2 : w < u
  · skip
    obtain ⟨fs, hr, hrun, hended, hW, hsame⟩ := X0.leave (v := some (.long w)) (fun h => by rw [Bd.returns] at h; cases h)
    refine ⟨_, _, pre1 _ ?_, hrun, hended, _, _, rfl, ?_, ⟨_, rfl⟩, hW, hsame.mono (by decide) (by decide)⟩
    · refine XS.ifYes X0.here hx rfl (pc0 := 3) (pc' := 10) rfl (hb hby own_d11_3) rfl ((if0 _ _).trans (tlt ((lw_gt _ _).mpr hc2)).2.2.1) (by decide) (by decide) ?_
      show Steps p.tables e below (s₁.setTop (mkF m 10 #[.val (.long u), .second, .val (.long w), .second] [])) _
      refine XS.lloadN X0.here hx rfl (hb hby own_d11_10) rfl ?_
      show Steps p.tables e below (s₁.setTop (mkF m 11 #[.val (.long u), .second, .val (.long w), .second] [(.long w)])) _
      exact retOut X0 hx (t := .long) Bd.returns rfl (Or.inr (Or.inl ⟨rfl, rfl, _, rfl⟩)) (hb hby own_d11_11) hr
    · show own_Q_own_minL Z u w h0 n0 _ s₁.heap _
      rw [e0]
      exact ⟨by simp [hc2], N0, rfl⟩
  · skip
    obtain ⟨fs, hr, hrun, hended, hW, hsame⟩ := X0.leave (v := some (.long u)) (fun h => by rw [Bd.returns] at h; cases h)
    refine ⟨_, _, pre1 _ ?_, hrun, hended, _, _, rfl, ?_, ⟨_, rfl⟩, hW, hsame.mono (by decide) (by decide)⟩
    · refine XS.ifNo X0.here hx rfl (hb hby own_d11_3) rfl ((if0 _ _).trans (flt (fun q => hc2 ((lw_gt _ _).mp q))).2.2.1) ?_
      show Steps p.tables e below (s₁.setTop (mkF m 6 #[.val (.long u), .second, .val (.long w), .second] [])) _
      refine XS.lloadN X0.here hx rfl (hb hby own_d11_6) rfl ?_
      show Steps p.tables e below (s₁.setTop (mkF m 7 #[.val (.long u), .second, .val (.long w), .second] [(.long u)])) _
      refine XS.goto X0.here hx rfl (pc0 := 7) (pc' := 11) rfl (hb hby own_d11_7) (by decide) (by decide) ?_
      show Steps p.tables e below (s₁.setTop (mkF m 11 #[.val (.long u), .second, .val (.long w), .second] [(.long u)])) _
      exact retOut X0 hx (t := .long) Bd.returns rfl (Or.inr (Or.inl ⟨rfl, rfl, _, rfl⟩)) (hb hby own_d11_11) hr
    · show own_Q_own_minL Z u w h0 n0 _ s₁.heap _
      rw [e0]
      exact ⟨by simp [hc2], N0, rfl⟩
theorem own_pd0 : parseMethodDescriptor "(II)I" = some ⟨[.int, .int], some .int⟩ := by decide +kernel
theorem own_d6_0 : decode jdk_65_method_124_code 0 = .ok (.iload_n 1, 1) := by decide +kernel
theorem own_d6_1 : decode jdk_65_method_124_code 1 = .ok (.aload_n 0, 1) := by decide +kernel
theorem own_d6_2 : decode jdk_65_method_124_code 2 = .ok (.arraylength, 1) := by decide +kernel
theorem own_d6_3 : decode jdk_65_method_124_code 3 = .ok (.if_icmp .ne 11, 3) := by decide +kernel
theorem own_d6_14 : decode jdk_65_method_124_code 14 = .ok (.iload_n 1, 1) := by decide +kernel
theorem own_d6_15 : decode jdk_65_method_124_code 15 = .ok (.newarray .long, 2) := by decide +kernel
theorem own_d6_17 : decode jdk_65_method_124_code 17 = .ok (.astore_n 2, 1) := by decide +kernel
theorem own_d6_18 : decode jdk_65_method_124_code 18 = .ok (.aload_n 0, 1) := by decide +kernel
theorem own_d6_19 : decode jdk_65_method_124_code 19 = .ok (.iconst 0, 1) := by decide +kernel
theorem own_d6_20 : decode jdk_65_method_124_code 20 = .ok (.aload_n 2, 1) := by decide +kernel
theorem own_d6_21 : decode jdk_65_method_124_code 21 = .ok (.iconst 0, 1) := by decide +kernel
theorem own_d6_22 : decode jdk_65_method_124_code 22 = .ok (.aload_n 0, 1) := by decide +kernel
theorem own_d6_23 : decode jdk_65_method_124_code 23 = .ok (.arraylength, 1) := by decide +kernel
theorem own_d6_24 : decode jdk_65_method_124_code 24 = .ok (.iload_n 1, 1) := by decide +kernel
theorem own_d6_25 : decode jdk_65_method_124_code 25 = .ok (.invokestatic 304, 3) := by decide +kernel
theorem own_d6_28 : decode jdk_65_method_124_code 28 = .ok (.invokestatic 150, 3) := by decide +kernel
theorem own_d6_31 : decode jdk_65_method_124_code 31 = .ok (.aload_n 2, 1) := by decide +kernel
theorem own_d6_32 : decode jdk_65_method_124_code 32 = .ok (.areturn, 1) := by decide +kernel
theorem own_pn1 : plainName "java/util/Arrays" = true := by first | (simp [plainName, overriddenIn]; done) | decide +kernel
theorem own_ef6 (m : MethodId) (x0 : Addr) (x1 : Int32) : entryFrame m #[(.ref x0), (.int x1)] 3 = mkF m 0 #[.val (.ref x0), .val (.int x1), .unset] [] := by first | (simp [entryFrame, mkF, argsToLocals, Value.category]; done) | rfl
def own_Q_own_cpJ (Z : State) (sa : Addr) (ks : ClassId) (h0 : Heap) (n0 : Nat) (v : Option Value) (h : Heap) (L : List Loc) : Prop := ∃ (b : Addr) (kb : ClassId), v = some (.ref b) ∧ Fr n0 L ∧ Keep h0 h [] ∧ Arv Z h b kb .long (2 : Int32) [(.long (0 : Int64)), (.long (0 : Int64))] (.long (0 : Int64)) ∧ h0.size ≤ b
set_option maxRecDepth 65536 in
set_option maxHeartbeats 40000000 in
theorem own_cpJ (l : Launch) (Z : State) (a0 : Array Value) (hw : ∀ d ∈ tables_1, d.before a0 Z = true) (ws : List Jvm.Cond) (sa : Addr) (ks : ClassId) (h0 : Heap) (n0 : Nat) (Z0 : n0 ≤ h0.size) (V : Arv Z h0 sa ks .long (0 : Int32) [] (.long (0 : Int64))) :
    MetFree l (⟨"java/util/Arrays", "copyOf", "([JI)[J"⟩ : MethodName) (head1 (Jvm.Cond.code (⟨"java/util/Arrays", "copyOf", "([JI)[J"⟩ : MethodName) jdk_65_method_124_code 3 (some (.array .long)) :: ws) ({ frames := 1, cells := 1, slots := 2, locals := 18 } : Room)) (fun as_ U => as_ = #[(.ref sa), (.int (2 : Int32))] ∧ Z.Warmed39 U.vm ∧ U.heap = h0) (fun _ _ _ _ _ => True) (fun _ U o U' => ∃ v L, o = .returned v ∧ own_Q_own_cpJ Z sa ks h0 n0 v U'.heap L ∧ FrameEnd U o U' L ({ frames := 1, cells := 1, slots := 2, locals := 18 } : Room).cells ({ frames := 1, cells := 1, slots := 2, locals := 18 } : Room).slots) := by
  refine MetFree.of_bodySF (plainFor_of_name own_pn1) hisR ?_
  intro p e s m args below meth c s₁ Bd hml0 hP hK
  obtain ⟨rfl, hZ, hh⟩ := hP
  have hx := Bd.exec
  have hby := Bd.bytes
  have hml : c.maxLocals = 3 := hml0
  have hown : s.vm.findClass "java/util/Arrays" = some m.cls := findClass_of_methodNamed Bd.named
  have hnm := (name_of_methodNamed Bd.named Bd.method).1
  have X0 : Stand p l e ({ frames := 1, cells := 1, slots := 2, locals := 18 } : Room) s m #[(.ref sa), (.int (2 : Int32))] below meth c s₁ [] 0 0 := Stand.of_body Bd
  have e0 : s₁.heap = h0 := by rw [← hh, Bd.state]; rfl
  have N0 := Fr.nil n0
  have pre0 : ∀ t, Steps p.tables e below (s₁.setTop (mkF m 0 #[.val (.ref sa), .val (.int (2 : Int32)), .unset] [])) t → Steps p.tables e below (s₁.setTop (entryFrame m #[(.ref sa), (.int (2 : Int32))] 3)) t := fun t k => castTop (own_ef6 m sa (2 : Int32)) k
  have KP := Keep.refl h0 ([] : List Addr)
  obtain ⟨cl1, Ar1, q1, S1, M1, H1, G1⟩ := id V
  obtain ⟨T2, h2, k2, X2, e2, E2, A2, st2⟩ := newP X0 hx hZ (hw _ (List.mem_of_getElem? (i := 9) rfl)) e0 (g := (mkF m 15 #[.val (.ref sa), .val (.int (2 : Int32)), .unset] [(.int (2 : Int32))])) rfl (hb hby own_d6_15) rfl (by decide) (cap := 2) (by decide) (by decide) (by decide) (by decide)
  obtain ⟨b2, g2⟩ : ∃ z, z = h0.size := ⟨_, rfl⟩
  rw [← g2] at A2 st2
  have g_b2 : n0 ≤ b2 := Nat.le_trans Z0 (Nat.le_of_eq g2.symm)
  have sz_b2 : h0.size ≤ b2 := Nat.le_trans KP.1 (Nat.le_of_eq g2.symm)
  have ne_sa_b2 : sa ≠ b2 := Nat.ne_of_lt (Nat.lt_of_lt_of_le V.lt (Nat.le_of_eq g2.symm))
  have V := V.ext E2
  have Z3 : n0 ≤ h2.size := Nat.le_trans Z0 E2.1
  have KP := KP.ext E2
  have V_b2 : Arv Z h2 b2 k2 .long (2 : Int32) [(.long (0 : Int64)), (.long (0 : Int64))] (.long (0 : Int64)) := (Arv.new A2 (by decide)).pad (pad_rep [] (.long (0 : Int64)) 2)
  obtain ⟨cl4, Ar4, q4, S4, M4, H4, G4⟩ := id V
  obtain ⟨_, _, ⟨T5, L5, k5, n5⟩, -, X5, ⟨Lc5, hQ5, l5, y5, z5⟩, st5⟩ := Jvm.LawKit.callS X2 hx (y := (⟨"java/lang/Math", "min", "(II)I"⟩ : MethodName)) hown (mvT hZ (hw _ (List.mem_of_getElem? (i := 52) rfl))) (mvT hZ (hw _ (List.mem_of_getElem? (i := 53) rfl))) (mvT hZ (hw _ (List.mem_of_getElem? (i := 46) rfl))) (mvT hZ (hw _ (List.mem_of_getElem? (i := 54) rfl))) (by decide) (backOf (W := 4) (own_min02 l Z a0 hw []   h2 n0 Z3 ) hZ (hw _ (List.mem_of_getElem? (i := 54) rfl)) (hw _ (List.mem_of_getElem? (i := 46) rfl)) (by decide) (by decide)) (g := (mkF m 25 #[.val (.ref sa), .val (.int (2 : Int32)), .val (.ref b2)] [(.int (2 : Int32)), (.int (0 : Int32)), (.int (0 : Int32)), (.ref b2), (.int (0 : Int32)), (.ref sa)])) rfl (by rw [hml]; rfl) (argsL := [(.int (0 : Int32)), (.int (2 : Int32))]) (rest := [(.int (0 : Int32)), (.ref b2), (.int (0 : Int32)), (.ref sa)]) (lenOf own_pd0 rfl) rfl (by show 2 * 0 + _ ≤ _; exact Nat.le_of_eq rfl) (hb hby own_d6_25) (fun _ _ => ⟨rfl, e2, (by decide : 1 + 0 ≤ _), (by decide : 2 + 0 ≤ _)⟩)
  dsimp only [Pt.U, Pt.locs, Pt.cells, Pt.slots] at X5 l5 y5 z5 st5 hQ5
  subst l5 y5 z5
  obtain ⟨rfl, N5q, e5⟩ := hQ5
  have N5 := Fr.app N0 N5q
  obtain ⟨T6, h6, L6, X6, e6, N6, K6, V6, st6⟩ := cpA X5 hx hZ hown (hw _ (List.mem_of_getElem? (i := 55) rfl)) (hw _ (List.mem_of_getElem? (i := 58) rfl)) (hw _ (List.mem_of_getElem? (i := 56) rfl)) (hw _ (List.mem_of_getElem? (i := 57) rfl)) e5 V V_b2 (Or.inl ⟨rfl, rfl⟩) (sp := (0 : Int32)) (dp := (0 : Int32)) (nn := (0 : Int32)) (by decide) (by decide) (by decide) (by decide) (by decide) rfl (by decide) N5 g_b2 (g := (mkF m 28 #[.val (.ref sa), .val (.int (2 : Int32)), .val (.ref b2)] [(.int (0 : Int32)), (.int (0 : Int32)), (.ref b2), (.int (0 : Int32)), (.ref sa)])) rfl (by rw [hml]; rfl) rfl (hb hby own_d6_28) (by decide) (W := 0) (by show 2 * 0 + _ ≤ _; exact Nat.le_of_eq rfl) (by decide)
  have V := V.keep K6 (ninS ne_sa_b2 nin0)
  have Z7 := Nat.le_trans Z3 K6.1
  have KP := KP.trans K6 (allS (Or.inr sz_b2) all0)
  have V_b2 : Arv Z h6 b2 k2 .long (2 : Int32) [(.long (0 : Int64)), (.long (0 : Int64))] (.long (0 : Int64)) := V6
  obtain ⟨fs, hr, hrun, hended, hW, hsame⟩ := X6.leave (v := some (.ref b2)) (fun h => by rw [Bd.returns] at h; cases h)
  refine ⟨_, _, pre0 _ ?_, hrun, hended, _, _, rfl, ?_, ⟨_, rfl⟩, hW, hsame.mono (by decide) (by decide)⟩
  · show Steps p.tables e below (s₁.setTop (mkF m 0 #[.val (.ref sa), .val (.int (2 : Int32)), .unset] [])) _
    refine XS.iloadN X0.here hx rfl (hb hby own_d6_0) rfl ?_
    show Steps p.tables e below (s₁.setTop (mkF m 1 #[.val (.ref sa), .val (.int (2 : Int32)), .unset] [(.int (2 : Int32))])) _
    refine XS.aloadN X0.here hx rfl (hb hby own_d6_1) rfl rfl ?_
    show Steps p.tables e below (s₁.setTop (mkF m 2 #[.val (.ref sa), .val (.int (2 : Int32)), .unset] [(.ref sa), (.int (2 : Int32))])) _
    refine X0.arraylength hx (by rw [e0]; exact Ar1.1) (State.isArrayOf_alike hZ.alike Ar1.2.1) (g := (mkF m 2 #[.val (.ref sa), .val (.int (2 : Int32)), .unset] [(.ref sa), (.int (2 : Int32))])) rfl rfl (hb hby own_d6_2) _ ?_
    rw [len_of S1 M1]
    show Steps p.tables e below (s₁.setTop (mkF m 3 #[.val (.ref sa), .val (.int (2 : Int32)), .unset] [(.int (0 : Int32)), (.int (2 : Int32))])) _
    refine XS.icmpYes X0.here hx rfl (pc0 := 3) (pc' := 14) rfl (hb hby own_d6_3) rfl (feq (by decide : ¬ ((2 : Int32) = (0 : Int32)))).2 (by decide) (by decide) ?_
    show Steps p.tables e below (s₁.setTop (mkF m 14 #[.val (.ref sa), .val (.int (2 : Int32)), .unset] [])) _
    refine XS.iloadN X0.here hx rfl (hb hby own_d6_14) rfl ?_
    show Steps p.tables e below (s₁.setTop (mkF m 15 #[.val (.ref sa), .val (.int (2 : Int32)), .unset] [(.int (2 : Int32))])) _
    refine st2 _ ?_
    show Steps p.tables e below (T2.setTop (mkF m 17 #[.val (.ref sa), .val (.int (2 : Int32)), .unset] [(.ref b2)])) _
    refine XS.astoreN X2.here hx rfl (hb hby own_d6_17) rfl rfl (l' := #[.val (.ref sa), .val (.int (2 : Int32)), .val (.ref b2)]) rfl ?_
    show Steps p.tables e below (T2.setTop (mkF m 18 #[.val (.ref sa), .val (.int (2 : Int32)), .val (.ref b2)] [])) _
    refine XS.aloadN X2.here hx rfl (hb hby own_d6_18) rfl rfl ?_
    show Steps p.tables e below (T2.setTop (mkF m 19 #[.val (.ref sa), .val (.int (2 : Int32)), .val (.ref b2)] [(.ref sa)])) _
    refine XS.iconst X2.here hx rfl (hb hby own_d6_19) ?_
    show Steps p.tables e below (T2.setTop (mkF m 20 #[.val (.ref sa), .val (.int (2 : Int32)), .val (.ref b2)] [(.int (0 : Int32)), (.ref sa)])) _
    refine XS.aloadN X2.here hx rfl (hb hby own_d6_20) rfl rfl ?_
    show Steps p.tables e below (T2.setTop (mkF m 21 #[.val (.ref sa), .val (.int (2 : Int32)), .val (.ref b2)] [(.ref b2), (.int (0 : Int32)), (.ref sa)])) _
    refine XS.iconst X2.here hx rfl (hb hby own_d6_21) ?_
    show Steps p.tables e below (T2.setTop (mkF m 22 #[.val (.ref sa), .val (.int (2 : Int32)), .val (.ref b2)] [(.int (0 : Int32)), (.ref b2), (.int (0 : Int32)), (.ref sa)])) _
    refine XS.aloadN X2.here hx rfl (hb hby own_d6_22) rfl rfl ?_
    show Steps p.tables e below (T2.setTop (mkF m 23 #[.val (.ref sa), .val (.int (2 : Int32)), .val (.ref b2)] [(.ref sa), (.int (0 : Int32)), (.ref b2), (.int (0 : Int32)), (.ref sa)])) _
    refine X2.arraylength hx (by rw [e2]; exact Ar4.1) (State.isArrayOf_alike hZ.alike Ar4.2.1) (g := (mkF m 23 #[.val (.ref sa), .val (.int (2 : Int32)), .val (.ref b2)] [(.ref sa), (.int (0 : Int32)), (.ref b2), (.int (0 : Int32)), (.ref sa)])) rfl rfl (hb hby own_d6_23) _ ?_
    rw [len_of S4 M4]
    show Steps p.tables e below (T2.setTop (mkF m 24 #[.val (.ref sa), .val (.int (2 : Int32)), .val (.ref b2)] [(.int (0 : Int32)), (.int (0 : Int32)), (.ref b2), (.int (0 : Int32)), (.ref sa)])) _
    refine XS.iloadN X2.here hx rfl (hb hby own_d6_24) rfl ?_
    show Steps p.tables e below (T2.setTop (mkF m 25 #[.val (.ref sa), .val (.int (2 : Int32)), .val (.ref b2)] [(.int (2 : Int32)), (.int (0 : Int32)), (.int (0 : Int32)), (.ref b2), (.int (0 : Int32)), (.ref sa)])) _
    refine st5 _ ?_
    show Steps p.tables e below (T5.setTop (mkF m 28 #[.val (.ref sa), .val (.int (2 : Int32)), .val (.ref b2)] [(.int (0 : Int32)), (.int (0 : Int32)), (.ref b2), (.int (0 : Int32)), (.ref sa)])) _
    refine st6 _ ?_
    show Steps p.tables e below (T6.setTop (mkF m 31 #[.val (.ref sa), .val (.int (2 : Int32)), .val (.ref b2)] [])) _
    refine XS.aloadN X6.here hx rfl (hb hby own_d6_31) rfl rfl ?_
    show Steps p.tables e below (T6.setTop (mkF m 32 #[.val (.ref sa), .val (.int (2 : Int32)), .val (.ref b2)] [(.ref b2)])) _
    exact retOut X6 hx (t := (.array .long)) Bd.returns rfl (Or.inr (Or.inr (Or.inr (Or.inr ⟨rfl, rfl, rfl⟩)))) (hb hby own_d6_32) hr
  · show own_Q_own_cpJ Z sa ks h0 n0 _ T6.heap _
    rw [e6]
    exact ⟨b2, _, rfl, N6, KP, V_b2, sz_b2⟩
theorem own_d8_0 : decode jdk_65_method_123_code 0 = .ok (.iload_n 1, 1) := by decide +kernel
theorem own_d8_1 : decode jdk_65_method_123_code 1 = .ok (.aload_n 0, 1) := by decide +kernel
theorem own_d8_2 : decode jdk_65_method_123_code 2 = .ok (.arraylength, 1) := by decide +kernel
theorem own_d8_3 : decode jdk_65_method_123_code 3 = .ok (.if_icmp .ne 11, 3) := by decide +kernel
theorem own_d8_14 : decode jdk_65_method_123_code 14 = .ok (.iload_n 1, 1) := by decide +kernel
theorem own_d8_15 : decode jdk_65_method_123_code 15 = .ok (.newarray .int, 2) := by decide +kernel
theorem own_d8_17 : decode jdk_65_method_123_code 17 = .ok (.astore_n 2, 1) := by decide +kernel
theorem own_d8_18 : decode jdk_65_method_123_code 18 = .ok (.aload_n 0, 1) := by decide +kernel
theorem own_d8_19 : decode jdk_65_method_123_code 19 = .ok (.iconst 0, 1) := by decide +kernel
theorem own_d8_20 : decode jdk_65_method_123_code 20 = .ok (.aload_n 2, 1) := by decide +kernel
theorem own_d8_21 : decode jdk_65_method_123_code 21 = .ok (.iconst 0, 1) := by decide +kernel
theorem own_d8_22 : decode jdk_65_method_123_code 22 = .ok (.aload_n 0, 1) := by decide +kernel
theorem own_d8_23 : decode jdk_65_method_123_code 23 = .ok (.arraylength, 1) := by decide +kernel
theorem own_d8_24 : decode jdk_65_method_123_code 24 = .ok (.iload_n 1, 1) := by decide +kernel
theorem own_d8_25 : decode jdk_65_method_123_code 25 = .ok (.invokestatic 304, 3) := by decide +kernel
theorem own_d8_28 : decode jdk_65_method_123_code 28 = .ok (.invokestatic 150, 3) := by decide +kernel
theorem own_d8_31 : decode jdk_65_method_123_code 31 = .ok (.aload_n 2, 1) := by decide +kernel
theorem own_d8_32 : decode jdk_65_method_123_code 32 = .ok (.areturn, 1) := by decide +kernel
theorem own_ef8 (m : MethodId) (x0 : Addr) (x1 : Int32) : entryFrame m #[(.ref x0), (.int x1)] 3 = mkF m 0 #[.val (.ref x0), .val (.int x1), .unset] [] := by first | (simp [entryFrame, mkF, argsToLocals, Value.category]; done) | rfl
def own_Q_own_cpI (Z : State) (sa : Addr) (ks : ClassId) (h0 : Heap) (n0 : Nat) (v : Option Value) (h : Heap) (L : List Loc) : Prop := ∃ (b : Addr) (kb : ClassId), v = some (.ref b) ∧ Fr n0 L ∧ Keep h0 h [] ∧ Arv Z h b kb .int (2 : Int32) [(.int (0 : Int32)), (.int (0 : Int32))] (.int (0 : Int32)) ∧ h0.size ≤ b
set_option maxRecDepth 65536 in
set_option maxHeartbeats 40000000 in
theorem own_cpI (l : Launch) (Z : State) (a0 : Array Value) (hw : ∀ d ∈ tables_1, d.before a0 Z = true) (ws : List Jvm.Cond) (sa : Addr) (ks : ClassId) (h0 : Heap) (n0 : Nat) (Z0 : n0 ≤ h0.size) (V : Arv Z h0 sa ks .int (0 : Int32) [] (.int (0 : Int32))) :
    MetFree l (⟨"java/util/Arrays", "copyOf", "([II)[I"⟩ : MethodName) (head1 (Jvm.Cond.code (⟨"java/util/Arrays", "copyOf", "([II)[I"⟩ : MethodName) jdk_65_method_123_code 3 (some (.array .int)) :: ws) ({ frames := 1, cells := 1, slots := 2, locals := 18 } : Room)) (fun as_ U => as_ = #[(.ref sa), (.int (2 : Int32))] ∧ Z.Warmed39 U.vm ∧ U.heap = h0) (fun _ _ _ _ _ => True) (fun _ U o U' => ∃ v L, o = .returned v ∧ own_Q_own_cpI Z sa ks h0 n0 v U'.heap L ∧ FrameEnd U o U' L ({ frames := 1, cells := 1, slots := 2, locals := 18 } : Room).cells ({ frames := 1, cells := 1, slots := 2, locals := 18 } : Room).slots) := by
  refine MetFree.of_bodySF (plainFor_of_name own_pn1) hisR ?_
  intro p e s m args below meth c s₁ Bd hml0 hP hK
  obtain ⟨rfl, hZ, hh⟩ := hP
  have hx := Bd.exec
  have hby := Bd.bytes
  have hml : c.maxLocals = 3 := hml0
  have hown : s.vm.findClass "java/util/Arrays" = some m.cls := findClass_of_methodNamed Bd.named
  have hnm := (name_of_methodNamed Bd.named Bd.method).1
  have X0 : Stand p l e ({ frames := 1, cells := 1, slots := 2, locals := 18 } : Room) s m #[(.ref sa), (.int (2 : Int32))] below meth c s₁ [] 0 0 := Stand.of_body Bd
  have e0 : s₁.heap = h0 := by rw [← hh, Bd.state]; rfl
  have N0 := Fr.nil n0
  have pre0 : ∀ t, Steps p.tables e below (s₁.setTop (mkF m 0 #[.val (.ref sa), .val (.int (2 : Int32)), .unset] [])) t → Steps p.tables e below (s₁.setTop (entryFrame m #[(.ref sa), (.int (2 : Int32))] 3)) t := fun t k => castTop (own_ef8 m sa (2 : Int32)) k
  have KP := Keep.refl h0 ([] : List Addr)
  obtain ⟨cl1, Ar1, q1, S1, M1, H1, G1⟩ := id V
  obtain ⟨T2, h2, k2, X2, e2, E2, A2, st2⟩ := newP X0 hx hZ (hw _ (List.mem_of_getElem? (i := 20) rfl)) e0 (g := (mkF m 15 #[.val (.ref sa), .val (.int (2 : Int32)), .unset] [(.int (2 : Int32))])) rfl (hb hby own_d8_15) rfl (by decide) (cap := 2) (by decide) (by decide) (by decide) (by decide)
  obtain ⟨b2, g2⟩ : ∃ z, z = h0.size := ⟨_, rfl⟩
  rw [← g2] at A2 st2
  have g_b2 : n0 ≤ b2 := Nat.le_trans Z0 (Nat.le_of_eq g2.symm)
  have sz_b2 : h0.size ≤ b2 := Nat.le_trans KP.1 (Nat.le_of_eq g2.symm)
  have ne_sa_b2 : sa ≠ b2 := Nat.ne_of_lt (Nat.lt_of_lt_of_le V.lt (Nat.le_of_eq g2.symm))
  have V := V.ext E2
  have Z3 : n0 ≤ h2.size := Nat.le_trans Z0 E2.1
  have KP := KP.ext E2
  have V_b2 : Arv Z h2 b2 k2 .int (2 : Int32) [(.int (0 : Int32)), (.int (0 : Int32))] (.int (0 : Int32)) := (Arv.new A2 (by decide)).pad (pad_rep [] (.int (0 : Int32)) 2)
  obtain ⟨cl4, Ar4, q4, S4, M4, H4, G4⟩ := id V
  obtain ⟨_, _, ⟨T5, L5, k5, n5⟩, -, X5, ⟨Lc5, hQ5, l5, y5, z5⟩, st5⟩ := Jvm.LawKit.callS X2 hx (y := (⟨"java/lang/Math", "min", "(II)I"⟩ : MethodName)) hown (mvT hZ (hw _ (List.mem_of_getElem? (i := 52) rfl))) (mvT hZ (hw _ (List.mem_of_getElem? (i := 53) rfl))) (mvT hZ (hw _ (List.mem_of_getElem? (i := 46) rfl))) (mvT hZ (hw _ (List.mem_of_getElem? (i := 54) rfl))) (by decide) (backOf (W := 4) (own_min02 l Z a0 hw []   h2 n0 Z3 ) hZ (hw _ (List.mem_of_getElem? (i := 54) rfl)) (hw _ (List.mem_of_getElem? (i := 46) rfl)) (by decide) (by decide)) (g := (mkF m 25 #[.val (.ref sa), .val (.int (2 : Int32)), .val (.ref b2)] [(.int (2 : Int32)), (.int (0 : Int32)), (.int (0 : Int32)), (.ref b2), (.int (0 : Int32)), (.ref sa)])) rfl (by rw [hml]; rfl) (argsL := [(.int (0 : Int32)), (.int (2 : Int32))]) (rest := [(.int (0 : Int32)), (.ref b2), (.int (0 : Int32)), (.ref sa)]) (lenOf own_pd0 rfl) rfl (by show 2 * 0 + _ ≤ _; exact Nat.le_of_eq rfl) (hb hby own_d8_25) (fun _ _ => ⟨rfl, e2, (by decide : 1 + 0 ≤ _), (by decide : 2 + 0 ≤ _)⟩)
  dsimp only [Pt.U, Pt.locs, Pt.cells, Pt.slots] at X5 l5 y5 z5 st5 hQ5
  subst l5 y5 z5
  obtain ⟨rfl, N5q, e5⟩ := hQ5
  have N5 := Fr.app N0 N5q
  obtain ⟨T6, h6, L6, X6, e6, N6, K6, V6, st6⟩ := cpA X5 hx hZ hown (hw _ (List.mem_of_getElem? (i := 55) rfl)) (hw _ (List.mem_of_getElem? (i := 58) rfl)) (hw _ (List.mem_of_getElem? (i := 56) rfl)) (hw _ (List.mem_of_getElem? (i := 57) rfl)) e5 V V_b2 (Or.inl ⟨rfl, rfl⟩) (sp := (0 : Int32)) (dp := (0 : Int32)) (nn := (0 : Int32)) (by decide) (by decide) (by decide) (by decide) (by decide) rfl (by decide) N5 g_b2 (g := (mkF m 28 #[.val (.ref sa), .val (.int (2 : Int32)), .val (.ref b2)] [(.int (0 : Int32)), (.int (0 : Int32)), (.ref b2), (.int (0 : Int32)), (.ref sa)])) rfl (by rw [hml]; rfl) rfl (hb hby own_d8_28) (by decide) (W := 0) (by show 2 * 0 + _ ≤ _; exact Nat.le_of_eq rfl) (by decide)
  have V := V.keep K6 (ninS ne_sa_b2 nin0)
  have Z7 := Nat.le_trans Z3 K6.1
  have KP := KP.trans K6 (allS (Or.inr sz_b2) all0)
  have V_b2 : Arv Z h6 b2 k2 .int (2 : Int32) [(.int (0 : Int32)), (.int (0 : Int32))] (.int (0 : Int32)) := V6
  obtain ⟨fs, hr, hrun, hended, hW, hsame⟩ := X6.leave (v := some (.ref b2)) (fun h => by rw [Bd.returns] at h; cases h)
  refine ⟨_, _, pre0 _ ?_, hrun, hended, _, _, rfl, ?_, ⟨_, rfl⟩, hW, hsame.mono (by decide) (by decide)⟩
  · show Steps p.tables e below (s₁.setTop (mkF m 0 #[.val (.ref sa), .val (.int (2 : Int32)), .unset] [])) _
    refine XS.iloadN X0.here hx rfl (hb hby own_d8_0) rfl ?_
    show Steps p.tables e below (s₁.setTop (mkF m 1 #[.val (.ref sa), .val (.int (2 : Int32)), .unset] [(.int (2 : Int32))])) _
    refine XS.aloadN X0.here hx rfl (hb hby own_d8_1) rfl rfl ?_
    show Steps p.tables e below (s₁.setTop (mkF m 2 #[.val (.ref sa), .val (.int (2 : Int32)), .unset] [(.ref sa), (.int (2 : Int32))])) _
    refine X0.arraylength hx (by rw [e0]; exact Ar1.1) (State.isArrayOf_alike hZ.alike Ar1.2.1) (g := (mkF m 2 #[.val (.ref sa), .val (.int (2 : Int32)), .unset] [(.ref sa), (.int (2 : Int32))])) rfl rfl (hb hby own_d8_2) _ ?_
    rw [len_of S1 M1]
    show Steps p.tables e below (s₁.setTop (mkF m 3 #[.val (.ref sa), .val (.int (2 : Int32)), .unset] [(.int (0 : Int32)), (.int (2 : Int32))])) _
    refine XS.icmpYes X0.here hx rfl (pc0 := 3) (pc' := 14) rfl (hb hby own_d8_3) rfl (feq (by decide : ¬ ((2 : Int32) = (0 : Int32)))).2 (by decide) (by decide) ?_
    show Steps p.tables e below (s₁.setTop (mkF m 14 #[.val (.ref sa), .val (.int (2 : Int32)), .unset] [])) _
    refine XS.iloadN X0.here hx rfl (hb hby own_d8_14) rfl ?_
    show Steps p.tables e below (s₁.setTop (mkF m 15 #[.val (.ref sa), .val (.int (2 : Int32)), .unset] [(.int (2 : Int32))])) _
    refine st2 _ ?_
    show Steps p.tables e below (T2.setTop (mkF m 17 #[.val (.ref sa), .val (.int (2 : Int32)), .unset] [(.ref b2)])) _
    refine XS.astoreN X2.here hx rfl (hb hby own_d8_17) rfl rfl (l' := #[.val (.ref sa), .val (.int (2 : Int32)), .val (.ref b2)]) rfl ?_
    show Steps p.tables e below (T2.setTop (mkF m 18 #[.val (.ref sa), .val (.int (2 : Int32)), .val (.ref b2)] [])) _
    refine XS.aloadN X2.here hx rfl (hb hby own_d8_18) rfl rfl ?_
    show Steps p.tables e below (T2.setTop (mkF m 19 #[.val (.ref sa), .val (.int (2 : Int32)), .val (.ref b2)] [(.ref sa)])) _
    refine XS.iconst X2.here hx rfl (hb hby own_d8_19) ?_
    show Steps p.tables e below (T2.setTop (mkF m 20 #[.val (.ref sa), .val (.int (2 : Int32)), .val (.ref b2)] [(.int (0 : Int32)), (.ref sa)])) _
    refine XS.aloadN X2.here hx rfl (hb hby own_d8_20) rfl rfl ?_
    show Steps p.tables e below (T2.setTop (mkF m 21 #[.val (.ref sa), .val (.int (2 : Int32)), .val (.ref b2)] [(.ref b2), (.int (0 : Int32)), (.ref sa)])) _
    refine XS.iconst X2.here hx rfl (hb hby own_d8_21) ?_
    show Steps p.tables e below (T2.setTop (mkF m 22 #[.val (.ref sa), .val (.int (2 : Int32)), .val (.ref b2)] [(.int (0 : Int32)), (.ref b2), (.int (0 : Int32)), (.ref sa)])) _
    refine XS.aloadN X2.here hx rfl (hb hby own_d8_22) rfl rfl ?_
    show Steps p.tables e below (T2.setTop (mkF m 23 #[.val (.ref sa), .val (.int (2 : Int32)), .val (.ref b2)] [(.ref sa), (.int (0 : Int32)), (.ref b2), (.int (0 : Int32)), (.ref sa)])) _
    refine X2.arraylength hx (by rw [e2]; exact Ar4.1) (State.isArrayOf_alike hZ.alike Ar4.2.1) (g := (mkF m 23 #[.val (.ref sa), .val (.int (2 : Int32)), .val (.ref b2)] [(.ref sa), (.int (0 : Int32)), (.ref b2), (.int (0 : Int32)), (.ref sa)])) rfl rfl (hb hby own_d8_23) _ ?_
    rw [len_of S4 M4]
    show Steps p.tables e below (T2.setTop (mkF m 24 #[.val (.ref sa), .val (.int (2 : Int32)), .val (.ref b2)] [(.int (0 : Int32)), (.int (0 : Int32)), (.ref b2), (.int (0 : Int32)), (.ref sa)])) _
    refine XS.iloadN X2.here hx rfl (hb hby own_d8_24) rfl ?_
    show Steps p.tables e below (T2.setTop (mkF m 25 #[.val (.ref sa), .val (.int (2 : Int32)), .val (.ref b2)] [(.int (2 : Int32)), (.int (0 : Int32)), (.int (0 : Int32)), (.ref b2), (.int (0 : Int32)), (.ref sa)])) _
    refine st5 _ ?_
    show Steps p.tables e below (T5.setTop (mkF m 28 #[.val (.ref sa), .val (.int (2 : Int32)), .val (.ref b2)] [(.int (0 : Int32)), (.int (0 : Int32)), (.ref b2), (.int (0 : Int32)), (.ref sa)])) _
    refine st6 _ ?_
    show Steps p.tables e below (T6.setTop (mkF m 31 #[.val (.ref sa), .val (.int (2 : Int32)), .val (.ref b2)] [])) _
    refine XS.aloadN X6.here hx rfl (hb hby own_d8_31) rfl rfl ?_
    show Steps p.tables e below (T6.setTop (mkF m 32 #[.val (.ref sa), .val (.int (2 : Int32)), .val (.ref b2)] [(.ref b2)])) _
    exact retOut X6 hx (t := (.array .int)) Bd.returns rfl (Or.inr (Or.inr (Or.inr (Or.inr ⟨rfl, rfl, rfl⟩)))) (hb hby own_d8_32) hr
  · show own_Q_own_cpI Z sa ks h0 n0 _ T6.heap _
    rw [e6]
    exact ⟨b2, _, rfl, N6, KP, V_b2, sz_b2⟩
theorem own_pd1 : parseMethodDescriptor "([JI)[J" = some ⟨[(.array .long), .int], some (.array .long)⟩ := by decide +kernel
theorem own_pd2 : parseMethodDescriptor "([II)[I" = some ⟨[(.array .int), .int], some (.array .int)⟩ := by decide +kernel
theorem own_d4_0 : decode prog_101_method_6_code 0 = .ok (.aload_n 0, 1) := by decide +kernel
theorem own_d4_1 : decode prog_101_method_6_code 1 = .ok (.getfield 7, 3) := by decide +kernel
theorem own_d4_4 : decode prog_101_method_6_code 4 = .ok (.arraylength, 1) := by decide +kernel
theorem own_d4_5 : decode prog_101_method_6_code 5 = .ok (.iload_n 1, 1) := by decide +kernel
theorem own_d4_6 : decode prog_101_method_6_code 6 = .ok (.if_icmp .ge 111, 3) := by decide +kernel
theorem own_d4_9 : decode prog_101_method_6_code 9 = .ok (.iload_n 1, 1) := by decide +kernel
theorem own_d4_10 : decode prog_101_method_6_code 10 = .ok (.aload_n 0, 1) := by decide +kernel
theorem own_d4_11 : decode prog_101_method_6_code 11 = .ok (.getfield 7, 3) := by decide +kernel
theorem own_d4_14 : decode prog_101_method_6_code 14 = .ok (.arraylength, 1) := by decide +kernel
theorem own_d4_15 : decode prog_101_method_6_code 15 = .ok (.iconst 2, 1) := by decide +kernel
theorem own_d4_16 : decode prog_101_method_6_code 16 = .ok (.imul, 1) := by decide +kernel
theorem own_d4_17 : decode prog_101_method_6_code 17 = .ok (.invokestatic 71, 3) := by decide +kernel
theorem own_d4_20 : decode prog_101_method_6_code 20 = .ok (.istore_n 2, 1) := by decide +kernel
theorem own_d4_21 : decode prog_101_method_6_code 21 = .ok (.aload_n 0, 1) := by decide +kernel
theorem own_d4_22 : decode prog_101_method_6_code 22 = .ok (.aload_n 0, 1) := by decide +kernel
theorem own_d4_23 : decode prog_101_method_6_code 23 = .ok (.getfield 7, 3) := by decide +kernel
theorem own_d4_26 : decode prog_101_method_6_code 26 = .ok (.iload_n 2, 1) := by decide +kernel
theorem own_d4_27 : decode prog_101_method_6_code 27 = .ok (.invokestatic 76, 3) := by decide +kernel
theorem own_d4_30 : decode prog_101_method_6_code 30 = .ok (.putfield 7, 3) := by decide +kernel
theorem own_d4_33 : decode prog_101_method_6_code 33 = .ok (.aload_n 0, 1) := by decide +kernel
theorem own_d4_34 : decode prog_101_method_6_code 34 = .ok (.aload_n 0, 1) := by decide +kernel
theorem own_d4_35 : decode prog_101_method_6_code 35 = .ok (.getfield 13, 3) := by decide +kernel
theorem own_d4_38 : decode prog_101_method_6_code 38 = .ok (.iload_n 2, 1) := by decide +kernel
theorem own_d4_39 : decode prog_101_method_6_code 39 = .ok (.invokestatic 76, 3) := by decide +kernel
theorem own_d4_42 : decode prog_101_method_6_code 42 = .ok (.putfield 13, 3) := by decide +kernel
theorem own_d4_45 : decode prog_101_method_6_code 45 = .ok (.aload_n 0, 1) := by decide +kernel
theorem own_d4_46 : decode prog_101_method_6_code 46 = .ok (.aload_n 0, 1) := by decide +kernel
theorem own_d4_47 : decode prog_101_method_6_code 47 = .ok (.getfield 16, 3) := by decide +kernel
theorem own_d4_50 : decode prog_101_method_6_code 50 = .ok (.iload_n 2, 1) := by decide +kernel
theorem own_d4_51 : decode prog_101_method_6_code 51 = .ok (.invokestatic 76, 3) := by decide +kernel
theorem own_d4_54 : decode prog_101_method_6_code 54 = .ok (.putfield 16, 3) := by decide +kernel
theorem own_d4_57 : decode prog_101_method_6_code 57 = .ok (.aload_n 0, 1) := by decide +kernel
theorem own_d4_58 : decode prog_101_method_6_code 58 = .ok (.aload_n 0, 1) := by decide +kernel
theorem own_d4_59 : decode prog_101_method_6_code 59 = .ok (.getfield 19, 3) := by decide +kernel
theorem own_d4_62 : decode prog_101_method_6_code 62 = .ok (.iload_n 2, 1) := by decide +kernel
theorem own_d4_63 : decode prog_101_method_6_code 63 = .ok (.invokestatic 76, 3) := by decide +kernel
theorem own_d4_66 : decode prog_101_method_6_code 66 = .ok (.putfield 19, 3) := by decide +kernel
theorem own_d4_69 : decode prog_101_method_6_code 69 = .ok (.aload_n 0, 1) := by decide +kernel
theorem own_d4_70 : decode prog_101_method_6_code 70 = .ok (.aload_n 0, 1) := by decide +kernel
theorem own_d4_71 : decode prog_101_method_6_code 71 = .ok (.getfield 22, 3) := by decide +kernel
theorem own_d4_74 : decode prog_101_method_6_code 74 = .ok (.iload_n 2, 1) := by decide +kernel
theorem own_d4_75 : decode prog_101_method_6_code 75 = .ok (.invokestatic 76, 3) := by decide +kernel
theorem own_d4_78 : decode prog_101_method_6_code 78 = .ok (.putfield 22, 3) := by decide +kernel
theorem own_d4_81 : decode prog_101_method_6_code 81 = .ok (.aload_n 0, 1) := by decide +kernel
theorem own_d4_82 : decode prog_101_method_6_code 82 = .ok (.aload_n 0, 1) := by decide +kernel
theorem own_d4_83 : decode prog_101_method_6_code 83 = .ok (.getfield 25, 3) := by decide +kernel
theorem own_d4_86 : decode prog_101_method_6_code 86 = .ok (.iload_n 2, 1) := by decide +kernel
theorem own_d4_87 : decode prog_101_method_6_code 87 = .ok (.invokestatic 82, 3) := by decide +kernel
theorem own_d4_90 : decode prog_101_method_6_code 90 = .ok (.putfield 25, 3) := by decide +kernel
theorem own_d4_93 : decode prog_101_method_6_code 93 = .ok (.aload_n 0, 1) := by decide +kernel
theorem own_d4_94 : decode prog_101_method_6_code 94 = .ok (.aload_n 0, 1) := by decide +kernel
theorem own_d4_95 : decode prog_101_method_6_code 95 = .ok (.getfield 29, 3) := by decide +kernel
theorem own_d4_98 : decode prog_101_method_6_code 98 = .ok (.iload_n 2, 1) := by decide +kernel
theorem own_d4_99 : decode prog_101_method_6_code 99 = .ok (.invokestatic 82, 3) := by decide +kernel
theorem own_d4_102 : decode prog_101_method_6_code 102 = .ok (.putfield 29, 3) := by decide +kernel
theorem own_d4_105 : decode prog_101_method_6_code 105 = .ok (.aload_n 0, 1) := by decide +kernel
theorem own_d4_106 : decode prog_101_method_6_code 106 = .ok (.aload_n 0, 1) := by decide +kernel
theorem own_d4_107 : decode prog_101_method_6_code 107 = .ok (.getfield 38, 3) := by decide +kernel
theorem own_d4_110 : decode prog_101_method_6_code 110 = .ok (.iload_n 2, 1) := by decide +kernel
theorem own_d4_111 : decode prog_101_method_6_code 111 = .ok (.invokestatic 82, 3) := by decide +kernel
theorem own_d4_114 : decode prog_101_method_6_code 114 = .ok (.putfield 38, 3) := by decide +kernel
theorem own_d4_117 : decode prog_101_method_6_code 117 = .ok (.return_, 1) := by decide +kernel
theorem own_ef4 (m : MethodId) (x0 : Addr) (x1 : Int32) : entryFrame m #[(.ref x0), (.int x1)] 3 = mkF m 0 #[.val (.ref x0), .val (.int x1), .unset] [] := by first | (simp [entryFrame, mkF, argsToLocals, Value.category]; done) | rfl
def own_Q_own_fit (Z : State) (a : Addr) (p0 : Addr) (p1 : Addr) (p2 : Addr) (p3 : Addr) (p4 : Addr) (p5 : Addr) (p6 : Addr) (p7 : Addr) (k_0 : ClassId) (k_1 : ClassId) (k_2 : ClassId) (k_3 : ClassId) (k_4 : ClassId) (k_5 : ClassId) (k_6 : ClassId) (k_7 : ClassId) (h0 : Heap) (n0 : Nat) (v : Option Value) (h : Heap) (L : List Loc) : Prop := ∃ (q0 q1 q2 q3 q4 q5 q6 : Addr) (j0 j1 j2 j3 j4 j5 j6 : ClassId), v = none ∧ Fr n0 L ∧ Keep h0 h [a] ∧ Exa Z h a "com/example/synclattice/synclattice/sync/StatePairs" ∧ Fld Z h a "com/example/synclattice/synclattice/sync/StatePairs" "positives" "[J" (.ref q0) ∧ Fld Z h a "com/example/synclattice/synclattice/sync/StatePairs" "negatives" "[J" (.ref q1) ∧ Fld Z h a "com/example/synclattice/synclattice/sync/StatePairs" "passes" "[J" (.ref q2) ∧ Fld Z h a "com/example/synclattice/synclattice/sync/StatePairs" "firstPositives" "[J" (.ref q3) ∧ Fld Z h a "com/example/synclattice/synclattice/sync/StatePairs" "firstNegatives" "[J" (.ref q4) ∧ Fld Z h a "com/example/synclattice/synclattice/sync/StatePairs" "sharedStateOf" "[I" (.ref q5) ∧ Fld Z h a "com/example/synclattice/synclattice/sync/StatePairs" "ownStateOf" "[I" (.ref q6) ∧ Fld Z h a "com/example/synclattice/synclattice/sync/StatePairs" "count" "I" (.int (0 : Int32)) ∧ Arv Z h q0 j0 .long (2 : Int32) [(.long (0 : Int64)), (.long (0 : Int64))] (.long (0 : Int64)) ∧ Arv Z h q1 j1 .long (2 : Int32) [(.long (0 : Int64)), (.long (0 : Int64))] (.long (0 : Int64)) ∧ Arv Z h q2 j2 .long (2 : Int32) [(.long (0 : Int64)), (.long (0 : Int64))] (.long (0 : Int64)) ∧ Arv Z h q3 j3 .long (2 : Int32) [(.long (0 : Int64)), (.long (0 : Int64))] (.long (0 : Int64)) ∧ Arv Z h q4 j4 .long (2 : Int32) [(.long (0 : Int64)), (.long (0 : Int64))] (.long (0 : Int64)) ∧ Arv Z h q5 j5 .int (2 : Int32) [(.int (0 : Int32)), (.int (0 : Int32))] (.int (0 : Int32)) ∧ Arv Z h q6 j6 .int (2 : Int32) [(.int (0 : Int32)), (.int (0 : Int32))] (.int (0 : Int32)) ∧ q0 ≠ q1 ∧ q0 ≠ q2 ∧ q0 ≠ q3 ∧ q0 ≠ q4 ∧ q0 ≠ q5 ∧ q0 ≠ q6 ∧ q1 ≠ q2 ∧ q1 ≠ q3 ∧ q1 ≠ q4 ∧ q1 ≠ q5 ∧ q1 ≠ q6 ∧ q2 ≠ q3 ∧ q2 ≠ q4 ∧ q2 ≠ q5 ∧ q2 ≠ q6 ∧ q3 ≠ q4 ∧ q3 ≠ q5 ∧ q3 ≠ q6 ∧ q4 ≠ q5 ∧ q4 ≠ q6 ∧ q5 ≠ q6 ∧ h0.size ≤ q0 ∧ h0.size ≤ q1 ∧ h0.size ≤ q2 ∧ h0.size ≤ q3 ∧ h0.size ≤ q4 ∧ h0.size ≤ q5 ∧ h0.size ≤ q6
set_option maxRecDepth 65536 in
set_option maxHeartbeats 40000000 in
theorem own_fit (l : Launch) (Z : State) (a0 : Array Value) (hw : ∀ d ∈ tables_1, d.before a0 Z = true) (ws : List Jvm.Cond) (a : Addr) (p0 : Addr) (p1 : Addr) (p2 : Addr) (p3 : Addr) (p4 : Addr) (p5 : Addr) (p6 : Addr) (p7 : Addr) (k_0 : ClassId) (k_1 : ClassId) (k_2 : ClassId) (k_3 : ClassId) (k_4 : ClassId) (k_5 : ClassId) (k_6 : ClassId) (k_7 : ClassId) (h0 : Heap) (n0 : Nat) (Z0 : n0 ≤ h0.size) (E : Exa Z h0 a "com/example/synclattice/synclattice/sync/StatePairs") (F_positives : Fld Z h0 a "com/example/synclattice/synclattice/sync/StatePairs" "positives" "[J" (.ref p0)) (F_negatives : Fld Z h0 a "com/example/synclattice/synclattice/sync/StatePairs" "negatives" "[J" (.ref p1)) (F_passes : Fld Z h0 a "com/example/synclattice/synclattice/sync/StatePairs" "passes" "[J" (.ref p2)) (F_firstPositives : Fld Z h0 a "com/example/synclattice/synclattice/sync/StatePairs" "firstPositives" "[J" (.ref p3)) (F_firstNegatives : Fld Z h0 a "com/example/synclattice/synclattice/sync/StatePairs" "firstNegatives" "[J" (.ref p4)) (F_sharedStateOf : Fld Z h0 a "com/example/synclattice/synclattice/sync/StatePairs" "sharedStateOf" "[I" (.ref p5)) (F_ownStateOf : Fld Z h0 a "com/example/synclattice/synclattice/sync/StatePairs" "ownStateOf" "[I" (.ref p6)) (F_slotOf : Fld Z h0 a "com/example/synclattice/synclattice/sync/StatePairs" "slotOf" "[I" (.ref p7)) (F_count : Fld Z h0 a "com/example/synclattice/synclattice/sync/StatePairs" "count" "I" (.int (0 : Int32))) (V0 : Arv Z h0 p0 k_0 .long (0 : Int32) [] (.long (0 : Int64))) (V1 : Arv Z h0 p1 k_1 .long (0 : Int32) [] (.long (0 : Int64))) (V2 : Arv Z h0 p2 k_2 .long (0 : Int32) [] (.long (0 : Int64))) (V3 : Arv Z h0 p3 k_3 .long (0 : Int32) [] (.long (0 : Int64))) (V4 : Arv Z h0 p4 k_4 .long (0 : Int32) [] (.long (0 : Int64))) (V5 : Arv Z h0 p5 k_5 .int (0 : Int32) [] (.int (0 : Int32))) (V6 : Arv Z h0 p6 k_6 .int (0 : Int32) [] (.int (0 : Int32))) (V7 : Arv Z h0 p7 k_7 .int (0 : Int32) [] (.int (0 : Int32))) (g : n0 ≤ a) :
    MetFree l (⟨"com/example/synclattice/synclattice/sync/StatePairs", "fit", "(I)V"⟩ : MethodName) (head1 (Jvm.Cond.code (⟨"com/example/synclattice/synclattice/sync/StatePairs", "fit", "(I)V"⟩ : MethodName) prog_101_method_6_code 3 none :: ws) ({ frames := 2, cells := 8, slots := 16, locals := 33 } : Room)) (fun as_ U => as_ = #[(.ref a), (.int (2 : Int32))] ∧ Z.Warmed39 U.vm ∧ U.heap = h0) (fun _ _ _ _ _ => True) (fun _ U o U' => ∃ v L, o = .returned v ∧ own_Q_own_fit Z a p0 p1 p2 p3 p4 p5 p6 p7 k_0 k_1 k_2 k_3 k_4 k_5 k_6 k_7 h0 n0 v U'.heap L ∧ FrameEnd U o U' L ({ frames := 2, cells := 8, slots := 16, locals := 33 } : Room).cells ({ frames := 2, cells := 8, slots := 16, locals := 33 } : Room).slots) := by
  refine MetFree.of_bodySF (plainFor_of_name own_pn0) hisR ?_
  intro p e s m args below meth c s₁ Bd hml0 hP hK
  obtain ⟨rfl, hZ, hh⟩ := hP
  have hx := Bd.exec
  have hby := Bd.bytes
  have hml : c.maxLocals = 3 := hml0
  have hown : s.vm.findClass "com/example/synclattice/synclattice/sync/StatePairs" = some m.cls := findClass_of_methodNamed Bd.named
  have hnm := (name_of_methodNamed Bd.named Bd.method).1
  have X0 : Stand p l e ({ frames := 2, cells := 8, slots := 16, locals := 33 } : Room) s m #[(.ref a), (.int (2 : Int32))] below meth c s₁ [] 0 0 := Stand.of_body Bd
  have e0 : s₁.heap = h0 := by rw [← hh, Bd.state]; rfl
  have N0 := Fr.nil n0
  have pre0 : ∀ t, Steps p.tables e below (s₁.setTop (mkF m 0 #[.val (.ref a), .val (.int (2 : Int32)), .unset] [])) t → Steps p.tables e below (s₁.setTop (entryFrame m #[(.ref a), (.int (2 : Int32))] 3)) t := fun t k => castTop (own_ef4 m a (2 : Int32)) k
  have KP := Keep.refl h0 ([a] : List Addr)
  obtain ⟨T1, X1, e1, st1⟩ := getF X0 hx hZ hown (host := "") (Or.inl (hw _ (List.mem_of_getElem? (i := 10) rfl))) Via.refl e0 F_positives (g := (mkF m 1 #[.val (.ref a), .val (.int (2 : Int32)), .unset] [(.ref a)])) rfl rfl (hb hby own_d4_1)
  obtain ⟨cl2, Ar2, q2, S2, M2, H2, G2⟩ := id V0
  obtain ⟨T3, X3, e3, st3⟩ := getF X1 hx hZ hown (host := "") (Or.inl (hw _ (List.mem_of_getElem? (i := 10) rfl))) Via.refl e1 F_positives (g := (mkF m 11 #[.val (.ref a), .val (.int (2 : Int32)), .unset] [(.ref a), (.int (2 : Int32))])) rfl rfl (hb hby own_d4_11)
  obtain ⟨cl4, Ar4, q4, S4, M4, H4, G4⟩ := id V0
  obtain ⟨_, _, ⟨T5, L5, k5, n5⟩, -, X5, ⟨Lc5, hQ5, l5, y5, z5⟩, st5⟩ := Jvm.LawKit.callS X3 hx (y := (⟨"java/lang/Math", "max", "(II)I"⟩ : MethodName)) hown (mvT hZ (hw _ (List.mem_of_getElem? (i := 44) rfl))) (mvT hZ (hw _ (List.mem_of_getElem? (i := 45) rfl))) (mvT hZ (hw _ (List.mem_of_getElem? (i := 46) rfl))) (mvT hZ (hw _ (List.mem_of_getElem? (i := 47) rfl))) (by decide) (backOf (W := 0) (own_max20 l Z a0 hw []   h0 n0 Z0 ) hZ (hw _ (List.mem_of_getElem? (i := 47) rfl)) (hw _ (List.mem_of_getElem? (i := 46) rfl)) (by decide) (by decide)) (g := (mkF m 17 #[.val (.ref a), .val (.int (2 : Int32)), .unset] [(.int (0 : Int32)), (.int (2 : Int32))])) rfl (by rw [hml]; rfl) (argsL := [(.int (2 : Int32)), (.int (0 : Int32))]) (rest := []) (lenOf own_pd0 rfl) rfl (by show 2 * 0 + _ ≤ _; exact Nat.le_of_eq rfl) (hb hby own_d4_17) (fun _ _ => ⟨rfl, e3, (by decide : 0 + 0 ≤ _), (by decide : 0 + 0 ≤ _)⟩)
  dsimp only [Pt.U, Pt.locs, Pt.cells, Pt.slots] at X5 l5 y5 z5 st5 hQ5
  subst l5 y5 z5
  obtain ⟨rfl, N5q, e5⟩ := hQ5
  have N5 := Fr.app N0 N5q
  obtain ⟨T6, X6, e6, st6⟩ := getF X5 hx hZ hown (host := "") (Or.inl (hw _ (List.mem_of_getElem? (i := 10) rfl))) Via.refl e5 F_positives (g := (mkF m 23 #[.val (.ref a), .val (.int (2 : Int32)), .val (.int (2 : Int32))] [(.ref a), (.ref a)])) rfl rfl (hb hby own_d4_23)
  obtain ⟨_, _, ⟨T7, L7, k7, n7⟩, -, X7, ⟨Lc7, hQ7, l7, y7, z7⟩, st7⟩ := Jvm.LawKit.callS X6 hx (y := (⟨"java/util/Arrays", "copyOf", "([JI)[J"⟩ : MethodName)) hown (mvT hZ (hw _ (List.mem_of_getElem? (i := 48) rfl))) (mvT hZ (hw _ (List.mem_of_getElem? (i := 49) rfl))) (mvT hZ (hw _ (List.mem_of_getElem? (i := 50) rfl))) (mvT hZ (hw _ (List.mem_of_getElem? (i := 51) rfl))) (by decide) (backOf (W := 1) (own_cpJ l Z a0 hw [] p0 k_0 h0 n0 Z0 V0) hZ (hw _ (List.mem_of_getElem? (i := 51) rfl)) (hw _ (List.mem_of_getElem? (i := 50) rfl)) (by decide) (by decide)) (g := (mkF m 27 #[.val (.ref a), .val (.int (2 : Int32)), .val (.int (2 : Int32))] [(.int (2 : Int32)), (.ref p0), (.ref a)])) rfl (by rw [hml]; rfl) (argsL := [(.ref p0), (.int (2 : Int32))]) (rest := [(.ref a)]) (lenOf own_pd1 rfl) rfl (by show 2 * 0 + _ ≤ _; exact Nat.le_of_eq rfl) (hb hby own_d4_27) (fun _ _ => ⟨rfl, e6, (by decide : 0 + 1 ≤ _), (by decide : 0 + 2 ≤ _)⟩)
  dsimp only [Pt.U, Pt.locs, Pt.cells, Pt.slots] at X7 l7 y7 z7 st7 hQ7
  subst l7 y7 z7
  obtain ⟨b7, kb7, rfl, N7q, K7, VB7, sz7⟩ := hQ7
  have N7 := Fr.app N5 N7q
  have g_b7 : n0 ≤ b7 := Nat.le_trans Z0 sz7
  have sz_b7 : h0.size ≤ b7 := Nat.le_trans KP.1 sz7
  have ne_a_b7 : a ≠ b7 := Nat.ne_of_lt (Nat.lt_of_lt_of_le E.lt sz7)
  have ne_p0_b7 : p0 ≠ b7 := Nat.ne_of_lt (Nat.lt_of_lt_of_le V0.lt sz7)
  have ne_p1_b7 : p1 ≠ b7 := Nat.ne_of_lt (Nat.lt_of_lt_of_le V1.lt sz7)
  have ne_p2_b7 : p2 ≠ b7 := Nat.ne_of_lt (Nat.lt_of_lt_of_le V2.lt sz7)
  have ne_p3_b7 : p3 ≠ b7 := Nat.ne_of_lt (Nat.lt_of_lt_of_le V3.lt sz7)
  have ne_p4_b7 : p4 ≠ b7 := Nat.ne_of_lt (Nat.lt_of_lt_of_le V4.lt sz7)
  have ne_p5_b7 : p5 ≠ b7 := Nat.ne_of_lt (Nat.lt_of_lt_of_le V5.lt sz7)
  have ne_p6_b7 : p6 ≠ b7 := Nat.ne_of_lt (Nat.lt_of_lt_of_le V6.lt sz7)
  have ne_p7_b7 : p7 ≠ b7 := Nat.ne_of_lt (Nat.lt_of_lt_of_le V7.lt sz7)
  have E := E.keep K7
  have F_positives := F_positives.keep K7 nin0
  have V0 := V0.keep K7 nin0
  have F_negatives := F_negatives.keep K7 nin0
  have V1 := V1.keep K7 nin0
  have F_passes := F_passes.keep K7 nin0
  have V2 := V2.keep K7 nin0
  have F_firstPositives := F_firstPositives.keep K7 nin0
  have V3 := V3.keep K7 nin0
  have F_firstNegatives := F_firstNegatives.keep K7 nin0
  have V4 := V4.keep K7 nin0
  have F_sharedStateOf := F_sharedStateOf.keep K7 nin0
  have V5 := V5.keep K7 nin0
  have F_ownStateOf := F_ownStateOf.keep K7 nin0
  have V6 := V6.keep K7 nin0
  have F_slotOf := F_slotOf.keep K7 nin0
  have V7 := V7.keep K7 nin0
  have F_count := F_count.keep K7 nin0
  have Z8 := Nat.le_trans Z0 K7.1
  have KP := KP.trans K7 all0
  obtain ⟨T9, h9, X9, e9, W9, st9⟩ := putF X7 hx hZ hown (host := "") (Or.inl (hw _ (List.mem_of_getElem? (i := 10) rfl))) Via.refl rfl F_positives E (Or.inl (hw _ (List.mem_of_getElem? (i := 11) rfl))) (hw _ (List.mem_of_getElem? (i := 1) rfl)) (ty := (.array .long)) (by decide) rfl rfl (g := (mkF m 30 #[.val (.ref a), .val (.int (2 : Int32)), .val (.int (2 : Int32))] [(.ref b7), (.ref a)])) rfl rfl (hb hby own_d4_30)
  have ne_a_p1 : a ≠ p1 := Exa.neArv E V1 (hw _ (List.mem_of_getElem? (i := 1) rfl))
  have ne_a_p2 : a ≠ p2 := Exa.neArv E V2 (hw _ (List.mem_of_getElem? (i := 1) rfl))
  have ne_a_p3 : a ≠ p3 := Exa.neArv E V3 (hw _ (List.mem_of_getElem? (i := 1) rfl))
  have ne_a_p4 : a ≠ p4 := Exa.neArv E V4 (hw _ (List.mem_of_getElem? (i := 1) rfl))
  have ne_a_p5 : a ≠ p5 := Exa.neArv E V5 (hw _ (List.mem_of_getElem? (i := 1) rfl))
  have ne_a_p6 : a ≠ p6 := Exa.neArv E V6 (hw _ (List.mem_of_getElem? (i := 1) rfl))
  have ne_a_p7 : a ≠ p7 := Exa.neArv E V7 (hw _ (List.mem_of_getElem? (i := 1) rfl))
  have E := E.wr W9
  have F_negatives := F_negatives.other W9 (Or.inr (slot_ne (Or.inl (hw _ (List.mem_of_getElem? (i := 13) rfl))) (Or.inl (hw _ (List.mem_of_getElem? (i := 11) rfl))) (by decide) (t := (.array .long)) (t' := (.array .long)) (by decide) (by decide)))
  have V1 := V1.other W9 (Ne.symm ne_a_p1)
  have F_passes := F_passes.other W9 (Or.inr (slot_ne (Or.inl (hw _ (List.mem_of_getElem? (i := 15) rfl))) (Or.inl (hw _ (List.mem_of_getElem? (i := 11) rfl))) (by decide) (t := (.array .long)) (t' := (.array .long)) (by decide) (by decide)))
  have V2 := V2.other W9 (Ne.symm ne_a_p2)
  have F_firstPositives := F_firstPositives.other W9 (Or.inr (slot_ne (Or.inl (hw _ (List.mem_of_getElem? (i := 17) rfl))) (Or.inl (hw _ (List.mem_of_getElem? (i := 11) rfl))) (by decide) (t := (.array .long)) (t' := (.array .long)) (by decide) (by decide)))
  have V3 := V3.other W9 (Ne.symm ne_a_p3)
  have F_firstNegatives := F_firstNegatives.other W9 (Or.inr (slot_ne (Or.inl (hw _ (List.mem_of_getElem? (i := 19) rfl))) (Or.inl (hw _ (List.mem_of_getElem? (i := 11) rfl))) (by decide) (t := (.array .long)) (t' := (.array .long)) (by decide) (by decide)))
  have V4 := V4.other W9 (Ne.symm ne_a_p4)
  have F_sharedStateOf := F_sharedStateOf.other W9 (Or.inr (slot_ne (Or.inl (hw _ (List.mem_of_getElem? (i := 22) rfl))) (Or.inl (hw _ (List.mem_of_getElem? (i := 11) rfl))) (by decide) (t := (.array .int)) (t' := (.array .long)) (by decide) (by decide)))
  have V5 := V5.other W9 (Ne.symm ne_a_p5)
  have F_ownStateOf := F_ownStateOf.other W9 (Or.inr (slot_ne (Or.inl (hw _ (List.mem_of_getElem? (i := 24) rfl))) (Or.inl (hw _ (List.mem_of_getElem? (i := 11) rfl))) (by decide) (t := (.array .int)) (t' := (.array .long)) (by decide) (by decide)))
  have V6 := V6.other W9 (Ne.symm ne_a_p6)
  have F_slotOf := F_slotOf.other W9 (Or.inr (slot_ne (Or.inl (hw _ (List.mem_of_getElem? (i := 30) rfl))) (Or.inl (hw _ (List.mem_of_getElem? (i := 11) rfl))) (by decide) (t := (.array .int)) (t' := (.array .long)) (by decide) (by decide)))
  have V7 := V7.other W9 (Ne.symm ne_a_p7)
  have F_count := F_count.other W9 (Or.inr (slot_ne (Or.inl (hw _ (List.mem_of_getElem? (i := 39) rfl))) (Or.inl (hw _ (List.mem_of_getElem? (i := 11) rfl))) (by decide) (t := .int) (t' := (.array .long)) (by decide) (by decide)))
  have VB7 := VB7.other W9 (Ne.symm ne_a_b7)
  have Z10 : n0 ≤ h9.size := Nat.le_trans Z8 (Keep.of_wr W9).1
  have KP := KP.wr W9 (Or.inl (List.mem_of_getElem? (i := 0) rfl))
  have F_positives := F_positives.same W9
  have N9 := Fr.snoc X9 N7 g
  obtain ⟨T11, X11, e11, st11⟩ := getF X9 hx hZ hown (host := "") (Or.inl (hw _ (List.mem_of_getElem? (i := 12) rfl))) Via.refl e9 F_negatives (g := (mkF m 35 #[.val (.ref a), .val (.int (2 : Int32)), .val (.int (2 : Int32))] [(.ref a), (.ref a)])) rfl rfl (hb hby own_d4_35)
  obtain ⟨_, _, ⟨T12, L12, k12, n12⟩, -, X12, ⟨Lc12, hQ12, l12, y12, z12⟩, st12⟩ := Jvm.LawKit.callS X11 hx (y := (⟨"java/util/Arrays", "copyOf", "([JI)[J"⟩ : MethodName)) hown (mvT hZ (hw _ (List.mem_of_getElem? (i := 48) rfl))) (mvT hZ (hw _ (List.mem_of_getElem? (i := 49) rfl))) (mvT hZ (hw _ (List.mem_of_getElem? (i := 50) rfl))) (mvT hZ (hw _ (List.mem_of_getElem? (i := 51) rfl))) (by decide) (backOf (W := 1) (own_cpJ l Z a0 hw [] p1 k_1 h9 n0 Z10 V1) hZ (hw _ (List.mem_of_getElem? (i := 51) rfl)) (hw _ (List.mem_of_getElem? (i := 50) rfl)) (by decide) (by decide)) (g := (mkF m 39 #[.val (.ref a), .val (.int (2 : Int32)), .val (.int (2 : Int32))] [(.int (2 : Int32)), (.ref p1), (.ref a)])) rfl (by rw [hml]; rfl) (argsL := [(.ref p1), (.int (2 : Int32))]) (rest := [(.ref a)]) (lenOf own_pd1 rfl) rfl (by show 2 * 0 + _ ≤ _; exact Nat.le_of_eq rfl) (hb hby own_d4_39) (fun _ _ => ⟨rfl, e11, (by decide : 1 + 1 ≤ _), (by decide : 2 + 2 ≤ _)⟩)
  dsimp only [Pt.U, Pt.locs, Pt.cells, Pt.slots] at X12 l12 y12 z12 st12 hQ12
  subst l12 y12 z12
  obtain ⟨b12, kb12, rfl, N12q, K12, VB12, sz12⟩ := hQ12
  have N12 := Fr.app N9 N12q
  have g_b12 : n0 ≤ b12 := Nat.le_trans Z10 sz12
  have sz_b12 : h0.size ≤ b12 := Nat.le_trans KP.1 sz12
  have ne_a_b12 : a ≠ b12 := Nat.ne_of_lt (Nat.lt_of_lt_of_le E.lt sz12)
  have ne_p1_b12 : p1 ≠ b12 := Nat.ne_of_lt (Nat.lt_of_lt_of_le V1.lt sz12)
  have ne_p2_b12 : p2 ≠ b12 := Nat.ne_of_lt (Nat.lt_of_lt_of_le V2.lt sz12)
  have ne_p3_b12 : p3 ≠ b12 := Nat.ne_of_lt (Nat.lt_of_lt_of_le V3.lt sz12)
  have ne_p4_b12 : p4 ≠ b12 := Nat.ne_of_lt (Nat.lt_of_lt_of_le V4.lt sz12)
  have ne_p5_b12 : p5 ≠ b12 := Nat.ne_of_lt (Nat.lt_of_lt_of_le V5.lt sz12)
  have ne_p6_b12 : p6 ≠ b12 := Nat.ne_of_lt (Nat.lt_of_lt_of_le V6.lt sz12)
  have ne_p7_b12 : p7 ≠ b12 := Nat.ne_of_lt (Nat.lt_of_lt_of_le V7.lt sz12)
  have ne_b7_b12 : b7 ≠ b12 := Nat.ne_of_lt (Nat.lt_of_lt_of_le VB7.lt sz12)
  have E := E.keep K12
  have F_positives := F_positives.keep K12 nin0
  have F_negatives := F_negatives.keep K12 nin0
  have V1 := V1.keep K12 nin0
  have F_passes := F_passes.keep K12 nin0
  have V2 := V2.keep K12 nin0
  have F_firstPositives := F_firstPositives.keep K12 nin0
  have V3 := V3.keep K12 nin0
  have F_firstNegatives := F_firstNegatives.keep K12 nin0
  have V4 := V4.keep K12 nin0
  have F_sharedStateOf := F_sharedStateOf.keep K12 nin0
  have V5 := V5.keep K12 nin0
  have F_ownStateOf := F_ownStateOf.keep K12 nin0
  have V6 := V6.keep K12 nin0
  have F_slotOf := F_slotOf.keep K12 nin0
  have V7 := V7.keep K12 nin0
  have F_count := F_count.keep K12 nin0
  have VB7 := VB7.keep K12 nin0
  have Z13 := Nat.le_trans Z10 K12.1
  have KP := KP.trans K12 all0
  obtain ⟨T14, h14, X14, e14, W14, st14⟩ := putF X12 hx hZ hown (host := "") (Or.inl (hw _ (List.mem_of_getElem? (i := 12) rfl))) Via.refl rfl F_negatives E (Or.inl (hw _ (List.mem_of_getElem? (i := 13) rfl))) (hw _ (List.mem_of_getElem? (i := 1) rfl)) (ty := (.array .long)) (by decide) rfl rfl (g := (mkF m 42 #[.val (.ref a), .val (.int (2 : Int32)), .val (.int (2 : Int32))] [(.ref b12), (.ref a)])) rfl rfl (hb hby own_d4_42)
  have E := E.wr W14
  have F_positives := F_positives.other W14 (Or.inr (slot_ne (Or.inl (hw _ (List.mem_of_getElem? (i := 11) rfl))) (Or.inl (hw _ (List.mem_of_getElem? (i := 13) rfl))) (by decide) (t := (.array .long)) (t' := (.array .long)) (by decide) (by decide)))
  have F_passes := F_passes.other W14 (Or.inr (slot_ne (Or.inl (hw _ (List.mem_of_getElem? (i := 15) rfl))) (Or.inl (hw _ (List.mem_of_getElem? (i := 13) rfl))) (by decide) (t := (.array .long)) (t' := (.array .long)) (by decide) (by decide)))
  have V2 := V2.other W14 (Ne.symm ne_a_p2)
  have F_firstPositives := F_firstPositives.other W14 (Or.inr (slot_ne (Or.inl (hw _ (List.mem_of_getElem? (i := 17) rfl))) (Or.inl (hw _ (List.mem_of_getElem? (i := 13) rfl))) (by decide) (t := (.array .long)) (t' := (.array .long)) (by decide) (by decide)))
  have V3 := V3.other W14 (Ne.symm ne_a_p3)
  have F_firstNegatives := F_firstNegatives.other W14 (Or.inr (slot_ne (Or.inl (hw _ (List.mem_of_getElem? (i := 19) rfl))) (Or.inl (hw _ (List.mem_of_getElem? (i := 13) rfl))) (by decide) (t := (.array .long)) (t' := (.array .long)) (by decide) (by decide)))
  have V4 := V4.other W14 (Ne.symm ne_a_p4)
  have F_sharedStateOf := F_sharedStateOf.other W14 (Or.inr (slot_ne (Or.inl (hw _ (List.mem_of_getElem? (i := 22) rfl))) (Or.inl (hw _ (List.mem_of_getElem? (i := 13) rfl))) (by decide) (t := (.array .int)) (t' := (.array .long)) (by decide) (by decide)))
  have V5 := V5.other W14 (Ne.symm ne_a_p5)
  have F_ownStateOf := F_ownStateOf.other W14 (Or.inr (slot_ne (Or.inl (hw _ (List.mem_of_getElem? (i := 24) rfl))) (Or.inl (hw _ (List.mem_of_getElem? (i := 13) rfl))) (by decide) (t := (.array .int)) (t' := (.array .long)) (by decide) (by decide)))
  have V6 := V6.other W14 (Ne.symm ne_a_p6)
  have F_slotOf := F_slotOf.other W14 (Or.inr (slot_ne (Or.inl (hw _ (List.mem_of_getElem? (i := 30) rfl))) (Or.inl (hw _ (List.mem_of_getElem? (i := 13) rfl))) (by decide) (t := (.array .int)) (t' := (.array .long)) (by decide) (by decide)))
  have V7 := V7.other W14 (Ne.symm ne_a_p7)
  have F_count := F_count.other W14 (Or.inr (slot_ne (Or.inl (hw _ (List.mem_of_getElem? (i := 39) rfl))) (Or.inl (hw _ (List.mem_of_getElem? (i := 13) rfl))) (by decide) (t := .int) (t' := (.array .long)) (by decide) (by decide)))
  have VB7 := VB7.other W14 (Ne.symm ne_a_b7)
  have VB12 := VB12.other W14 (Ne.symm ne_a_b12)
  have Z15 : n0 ≤ h14.size := Nat.le_trans Z13 (Keep.of_wr W14).1
  have KP := KP.wr W14 (Or.inl (List.mem_of_getElem? (i := 0) rfl))
  have F_negatives := F_negatives.same W14
  have N14 := Fr.snoc X14 N12 g
  obtain ⟨T16, X16, e16, st16⟩ := getF X14 hx hZ hown (host := "") (Or.inl (hw _ (List.mem_of_getElem? (i := 14) rfl))) Via.refl e14 F_passes (g := (mkF m 47 #[.val (.ref a), .val (.int (2 : Int32)), .val (.int (2 : Int32))] [(.ref a), (.ref a)])) rfl rfl (hb hby own_d4_47)
  obtain ⟨_, _, ⟨T17, L17, k17, n17⟩, -, X17, ⟨Lc17, hQ17, l17, y17, z17⟩, st17⟩ := Jvm.LawKit.callS X16 hx (y := (⟨"java/util/Arrays", "copyOf", "([JI)[J"⟩ : MethodName)) hown (mvT hZ (hw _ (List.mem_of_getElem? (i := 48) rfl))) (mvT hZ (hw _ (List.mem_of_getElem? (i := 49) rfl))) (mvT hZ (hw _ (List.mem_of_getElem? (i := 50) rfl))) (mvT hZ (hw _ (List.mem_of_getElem? (i := 51) rfl))) (by decide) (backOf (W := 1) (own_cpJ l Z a0 hw [] p2 k_2 h14 n0 Z15 V2) hZ (hw _ (List.mem_of_getElem? (i := 51) rfl)) (hw _ (List.mem_of_getElem? (i := 50) rfl)) (by decide) (by decide)) (g := (mkF m 51 #[.val (.ref a), .val (.int (2 : Int32)), .val (.int (2 : Int32))] [(.int (2 : Int32)), (.ref p2), (.ref a)])) rfl (by rw [hml]; rfl) (argsL := [(.ref p2), (.int (2 : Int32))]) (rest := [(.ref a)]) (lenOf own_pd1 rfl) rfl (by show 2 * 0 + _ ≤ _; exact Nat.le_of_eq rfl) (hb hby own_d4_51) (fun _ _ => ⟨rfl, e16, (by decide : 2 + 1 ≤ _), (by decide : 4 + 2 ≤ _)⟩)
  dsimp only [Pt.U, Pt.locs, Pt.cells, Pt.slots] at X17 l17 y17 z17 st17 hQ17
  subst l17 y17 z17
  obtain ⟨b17, kb17, rfl, N17q, K17, VB17, sz17⟩ := hQ17
  have N17 := Fr.app N14 N17q
  have g_b17 : n0 ≤ b17 := Nat.le_trans Z15 sz17
  have sz_b17 : h0.size ≤ b17 := Nat.le_trans KP.1 sz17
  have ne_a_b17 : a ≠ b17 := Nat.ne_of_lt (Nat.lt_of_lt_of_le E.lt sz17)
  have ne_p2_b17 : p2 ≠ b17 := Nat.ne_of_lt (Nat.lt_of_lt_of_le V2.lt sz17)
  have ne_p3_b17 : p3 ≠ b17 := Nat.ne_of_lt (Nat.lt_of_lt_of_le V3.lt sz17)
  have ne_p4_b17 : p4 ≠ b17 := Nat.ne_of_lt (Nat.lt_of_lt_of_le V4.lt sz17)
  have ne_p5_b17 : p5 ≠ b17 := Nat.ne_of_lt (Nat.lt_of_lt_of_le V5.lt sz17)
  have ne_p6_b17 : p6 ≠ b17 := Nat.ne_of_lt (Nat.lt_of_lt_of_le V6.lt sz17)
  have ne_p7_b17 : p7 ≠ b17 := Nat.ne_of_lt (Nat.lt_of_lt_of_le V7.lt sz17)
  have ne_b7_b17 : b7 ≠ b17 := Nat.ne_of_lt (Nat.lt_of_lt_of_le VB7.lt sz17)
  have ne_b12_b17 : b12 ≠ b17 := Nat.ne_of_lt (Nat.lt_of_lt_of_le VB12.lt sz17)
  have E := E.keep K17
  have F_positives := F_positives.keep K17 nin0
  have F_negatives := F_negatives.keep K17 nin0
  have F_passes := F_passes.keep K17 nin0
  have V2 := V2.keep K17 nin0
  have F_firstPositives := F_firstPositives.keep K17 nin0
  have V3 := V3.keep K17 nin0
  have F_firstNegatives := F_firstNegatives.keep K17 nin0
  have V4 := V4.keep K17 nin0
  have F_sharedStateOf := F_sharedStateOf.keep K17 nin0
  have V5 := V5.keep K17 nin0
  have F_ownStateOf := F_ownStateOf.keep K17 nin0
  have V6 := V6.keep K17 nin0
  have F_slotOf := F_slotOf.keep K17 nin0
  have V7 := V7.keep K17 nin0
  have F_count := F_count.keep K17 nin0
  have VB7 := VB7.keep K17 nin0
  have VB12 := VB12.keep K17 nin0
  have Z18 := Nat.le_trans Z15 K17.1
  have KP := KP.trans K17 all0
  obtain ⟨T19, h19, X19, e19, W19, st19⟩ := putF X17 hx hZ hown (host := "") (Or.inl (hw _ (List.mem_of_getElem? (i := 14) rfl))) Via.refl rfl F_passes E (Or.inl (hw _ (List.mem_of_getElem? (i := 15) rfl))) (hw _ (List.mem_of_getElem? (i := 1) rfl)) (ty := (.array .long)) (by decide) rfl rfl (g := (mkF m 54 #[.val (.ref a), .val (.int (2 : Int32)), .val (.int (2 : Int32))] [(.ref b17), (.ref a)])) rfl rfl (hb hby own_d4_54)
  have E := E.wr W19
  have F_positives := F_positives.other W19 (Or.inr (slot_ne (Or.inl (hw _ (List.mem_of_getElem? (i := 11) rfl))) (Or.inl (hw _ (List.mem_of_getElem? (i := 15) rfl))) (by decide) (t := (.array .long)) (t' := (.array .long)) (by decide) (by decide)))
  have F_negatives := F_negatives.other W19 (Or.inr (slot_ne (Or.inl (hw _ (List.mem_of_getElem? (i := 13) rfl))) (Or.inl (hw _ (List.mem_of_getElem? (i := 15) rfl))) (by decide) (t := (.array .long)) (t' := (.array .long)) (by decide) (by decide)))
  have F_firstPositives := F_firstPositives.other W19 (Or.inr (slot_ne (Or.inl (hw _ (List.mem_of_getElem? (i := 17) rfl))) (Or.inl (hw _ (List.mem_of_getElem? (i := 15) rfl))) (by decide) (t := (.array .long)) (t' := (.array .long)) (by decide) (by decide)))
  have V3 := V3.other W19 (Ne.symm ne_a_p3)
  have F_firstNegatives := F_firstNegatives.other W19 (Or.inr (slot_ne (Or.inl (hw _ (List.mem_of_getElem? (i := 19) rfl))) (Or.inl (hw _ (List.mem_of_getElem? (i := 15) rfl))) (by decide) (t := (.array .long)) (t' := (.array .long)) (by decide) (by decide)))
  have V4 := V4.other W19 (Ne.symm ne_a_p4)
  have F_sharedStateOf := F_sharedStateOf.other W19 (Or.inr (slot_ne (Or.inl (hw _ (List.mem_of_getElem? (i := 22) rfl))) (Or.inl (hw _ (List.mem_of_getElem? (i := 15) rfl))) (by decide) (t := (.array .int)) (t' := (.array .long)) (by decide) (by decide)))
  have V5 := V5.other W19 (Ne.symm ne_a_p5)
  have F_ownStateOf := F_ownStateOf.other W19 (Or.inr (slot_ne (Or.inl (hw _ (List.mem_of_getElem? (i := 24) rfl))) (Or.inl (hw _ (List.mem_of_getElem? (i := 15) rfl))) (by decide) (t := (.array .int)) (t' := (.array .long)) (by decide) (by decide)))
  have V6 := V6.other W19 (Ne.symm ne_a_p6)
  have F_slotOf := F_slotOf.other W19 (Or.inr (slot_ne (Or.inl (hw _ (List.mem_of_getElem? (i := 30) rfl))) (Or.inl (hw _ (List.mem_of_getElem? (i := 15) rfl))) (by decide) (t := (.array .int)) (t' := (.array .long)) (by decide) (by decide)))
  have V7 := V7.other W19 (Ne.symm ne_a_p7)
  have F_count := F_count.other W19 (Or.inr (slot_ne (Or.inl (hw _ (List.mem_of_getElem? (i := 39) rfl))) (Or.inl (hw _ (List.mem_of_getElem? (i := 15) rfl))) (by decide) (t := .int) (t' := (.array .long)) (by decide) (by decide)))
  have VB7 := VB7.other W19 (Ne.symm ne_a_b7)
  have VB12 := VB12.other W19 (Ne.symm ne_a_b12)
  have VB17 := VB17.other W19 (Ne.symm ne_a_b17)
  have Z20 : n0 ≤ h19.size := Nat.le_trans Z18 (Keep.of_wr W19).1
  have KP := KP.wr W19 (Or.inl (List.mem_of_getElem? (i := 0) rfl))
  have F_passes := F_passes.same W19
  have N19 := Fr.snoc X19 N17 g
  obtain ⟨T21, X21, e21, st21⟩ := getF X19 hx hZ hown (host := "") (Or.inl (hw _ (List.mem_of_getElem? (i := 16) rfl))) Via.refl e19 F_firstPositives (g := (mkF m 59 #[.val (.ref a), .val (.int (2 : Int32)), .val (.int (2 : Int32))] [(.ref a), (.ref a)])) rfl rfl (hb hby own_d4_59)
  obtain ⟨_, _, ⟨T22, L22, k22, n22⟩, -, X22, ⟨Lc22, hQ22, l22, y22, z22⟩, st22⟩ := Jvm.LawKit.callS X21 hx (y := (⟨"java/util/Arrays", "copyOf", "([JI)[J"⟩ : MethodName)) hown (mvT hZ (hw _ (List.mem_of_getElem? (i := 48) rfl))) (mvT hZ (hw _ (List.mem_of_getElem? (i := 49) rfl))) (mvT hZ (hw _ (List.mem_of_getElem? (i := 50) rfl))) (mvT hZ (hw _ (List.mem_of_getElem? (i := 51) rfl))) (by decide) (backOf (W := 1) (own_cpJ l Z a0 hw [] p3 k_3 h19 n0 Z20 V3) hZ (hw _ (List.mem_of_getElem? (i := 51) rfl)) (hw _ (List.mem_of_getElem? (i := 50) rfl)) (by decide) (by decide)) (g := (mkF m 63 #[.val (.ref a), .val (.int (2 : Int32)), .val (.int (2 : Int32))] [(.int (2 : Int32)), (.ref p3), (.ref a)])) rfl (by rw [hml]; rfl) (argsL := [(.ref p3), (.int (2 : Int32))]) (rest := [(.ref a)]) (lenOf own_pd1 rfl) rfl (by show 2 * 0 + _ ≤ _; exact Nat.le_of_eq rfl) (hb hby own_d4_63) (fun _ _ => ⟨rfl, e21, (by decide : 3 + 1 ≤ _), (by decide : 6 + 2 ≤ _)⟩)
  dsimp only [Pt.U, Pt.locs, Pt.cells, Pt.slots] at X22 l22 y22 z22 st22 hQ22
  subst l22 y22 z22
  obtain ⟨b22, kb22, rfl, N22q, K22, VB22, sz22⟩ := hQ22
  have N22 := Fr.app N19 N22q
  have g_b22 : n0 ≤ b22 := Nat.le_trans Z20 sz22
  have sz_b22 : h0.size ≤ b22 := Nat.le_trans KP.1 sz22
  have ne_a_b22 : a ≠ b22 := Nat.ne_of_lt (Nat.lt_of_lt_of_le E.lt sz22)
  have ne_p3_b22 : p3 ≠ b22 := Nat.ne_of_lt (Nat.lt_of_lt_of_le V3.lt sz22)
  have ne_p4_b22 : p4 ≠ b22 := Nat.ne_of_lt (Nat.lt_of_lt_of_le V4.lt sz22)
  have ne_p5_b22 : p5 ≠ b22 := Nat.ne_of_lt (Nat.lt_of_lt_of_le V5.lt sz22)
  have ne_p6_b22 : p6 ≠ b22 := Nat.ne_of_lt (Nat.lt_of_lt_of_le V6.lt sz22)
  have ne_p7_b22 : p7 ≠ b22 := Nat.ne_of_lt (Nat.lt_of_lt_of_le V7.lt sz22)
  have ne_b7_b22 : b7 ≠ b22 := Nat.ne_of_lt (Nat.lt_of_lt_of_le VB7.lt sz22)
  have ne_b12_b22 : b12 ≠ b22 := Nat.ne_of_lt (Nat.lt_of_lt_of_le VB12.lt sz22)
  have ne_b17_b22 : b17 ≠ b22 := Nat.ne_of_lt (Nat.lt_of_lt_of_le VB17.lt sz22)
  have E := E.keep K22
  have F_positives := F_positives.keep K22 nin0
  have F_negatives := F_negatives.keep K22 nin0
  have F_passes := F_passes.keep K22 nin0
  have F_firstPositives := F_firstPositives.keep K22 nin0
  have V3 := V3.keep K22 nin0
  have F_firstNegatives := F_firstNegatives.keep K22 nin0
  have V4 := V4.keep K22 nin0
  have F_sharedStateOf := F_sharedStateOf.keep K22 nin0
  have V5 := V5.keep K22 nin0
  have F_ownStateOf := F_ownStateOf.keep K22 nin0
  have V6 := V6.keep K22 nin0
  have F_slotOf := F_slotOf.keep K22 nin0
  have V7 := V7.keep K22 nin0
  have F_count := F_count.keep K22 nin0
  have VB7 := VB7.keep K22 nin0
  have VB12 := VB12.keep K22 nin0
  have VB17 := VB17.keep K22 nin0
  have Z23 := Nat.le_trans Z20 K22.1
  have KP := KP.trans K22 all0
  obtain ⟨T24, h24, X24, e24, W24, st24⟩ := putF X22 hx hZ hown (host := "") (Or.inl (hw _ (List.mem_of_getElem? (i := 16) rfl))) Via.refl rfl F_firstPositives E (Or.inl (hw _ (List.mem_of_getElem? (i := 17) rfl))) (hw _ (List.mem_of_getElem? (i := 1) rfl)) (ty := (.array .long)) (by decide) rfl rfl (g := (mkF m 66 #[.val (.ref a), .val (.int (2 : Int32)), .val (.int (2 : Int32))] [(.ref b22), (.ref a)])) rfl rfl (hb hby own_d4_66)
  have E := E.wr W24
  have F_positives := F_positives.other W24 (Or.inr (slot_ne (Or.inl (hw _ (List.mem_of_getElem? (i := 11) rfl))) (Or.inl (hw _ (List.mem_of_getElem? (i := 17) rfl))) (by decide) (t := (.array .long)) (t' := (.array .long)) (by decide) (by decide)))
  have F_negatives := F_negatives.other W24 (Or.inr (slot_ne (Or.inl (hw _ (List.mem_of_getElem? (i := 13) rfl))) (Or.inl (hw _ (List.mem_of_getElem? (i := 17) rfl))) (by decide) (t := (.array .long)) (t' := (.array .long)) (by decide) (by decide)))
  have F_passes := F_passes.other W24 (Or.inr (slot_ne (Or.inl (hw _ (List.mem_of_getElem? (i := 15) rfl))) (Or.inl (hw _ (List.mem_of_getElem? (i := 17) rfl))) (by decide) (t := (.array .long)) (t' := (.array .long)) (by decide) (by decide)))
  have F_firstNegatives := F_firstNegatives.other W24 (Or.inr (slot_ne (Or.inl (hw _ (List.mem_of_getElem? (i := 19) rfl))) (Or.inl (hw _ (List.mem_of_getElem? (i := 17) rfl))) (by decide) (t := (.array .long)) (t' := (.array .long)) (by decide) (by decide)))
  have V4 := V4.other W24 (Ne.symm ne_a_p4)
  have F_sharedStateOf := F_sharedStateOf.other W24 (Or.inr (slot_ne (Or.inl (hw _ (List.mem_of_getElem? (i := 22) rfl))) (Or.inl (hw _ (List.mem_of_getElem? (i := 17) rfl))) (by decide) (t := (.array .int)) (t' := (.array .long)) (by decide) (by decide)))
  have V5 := V5.other W24 (Ne.symm ne_a_p5)
  have F_ownStateOf := F_ownStateOf.other W24 (Or.inr (slot_ne (Or.inl (hw _ (List.mem_of_getElem? (i := 24) rfl))) (Or.inl (hw _ (List.mem_of_getElem? (i := 17) rfl))) (by decide) (t := (.array .int)) (t' := (.array .long)) (by decide) (by decide)))
  have V6 := V6.other W24 (Ne.symm ne_a_p6)
  have F_slotOf := F_slotOf.other W24 (Or.inr (slot_ne (Or.inl (hw _ (List.mem_of_getElem? (i := 30) rfl))) (Or.inl (hw _ (List.mem_of_getElem? (i := 17) rfl))) (by decide) (t := (.array .int)) (t' := (.array .long)) (by decide) (by decide)))
  have V7 := V7.other W24 (Ne.symm ne_a_p7)
  have F_count := F_count.other W24 (Or.inr (slot_ne (Or.inl (hw _ (List.mem_of_getElem? (i := 39) rfl))) (Or.inl (hw _ (List.mem_of_getElem? (i := 17) rfl))) (by decide) (t := .int) (t' := (.array .long)) (by decide) (by decide)))
  have VB7 := VB7.other W24 (Ne.symm ne_a_b7)
  have VB12 := VB12.other W24 (Ne.symm ne_a_b12)
  have VB17 := VB17.other W24 (Ne.symm ne_a_b17)
  have VB22 := VB22.other W24 (Ne.symm ne_a_b22)
  have Z25 : n0 ≤ h24.size := Nat.le_trans Z23 (Keep.of_wr W24).1
  have KP := KP.wr W24 (Or.inl (List.mem_of_getElem? (i := 0) rfl))
  have F_firstPositives := F_firstPositives.same W24
  have N24 := Fr.snoc X24 N22 g
  obtain ⟨T26, X26, e26, st26⟩ := getF X24 hx hZ hown (host := "") (Or.inl (hw _ (List.mem_of_getElem? (i := 18) rfl))) Via.refl e24 F_firstNegatives (g := (mkF m 71 #[.val (.ref a), .val (.int (2 : Int32)), .val (.int (2 : Int32))] [(.ref a), (.ref a)])) rfl rfl (hb hby own_d4_71)
  obtain ⟨_, _, ⟨T27, L27, k27, n27⟩, -, X27, ⟨Lc27, hQ27, l27, y27, z27⟩, st27⟩ := Jvm.LawKit.callS X26 hx (y := (⟨"java/util/Arrays", "copyOf", "([JI)[J"⟩ : MethodName)) hown (mvT hZ (hw _ (List.mem_of_getElem? (i := 48) rfl))) (mvT hZ (hw _ (List.mem_of_getElem? (i := 49) rfl))) (mvT hZ (hw _ (List.mem_of_getElem? (i := 50) rfl))) (mvT hZ (hw _ (List.mem_of_getElem? (i := 51) rfl))) (by decide) (backOf (W := 1) (own_cpJ l Z a0 hw [] p4 k_4 h24 n0 Z25 V4) hZ (hw _ (List.mem_of_getElem? (i := 51) rfl)) (hw _ (List.mem_of_getElem? (i := 50) rfl)) (by decide) (by decide)) (g := (mkF m 75 #[.val (.ref a), .val (.int (2 : Int32)), .val (.int (2 : Int32))] [(.int (2 : Int32)), (.ref p4), (.ref a)])) rfl (by rw [hml]; rfl) (argsL := [(.ref p4), (.int (2 : Int32))]) (rest := [(.ref a)]) (lenOf own_pd1 rfl) rfl (by show 2 * 0 + _ ≤ _; exact Nat.le_of_eq rfl) (hb hby own_d4_75) (fun _ _ => ⟨rfl, e26, (by decide : 4 + 1 ≤ _), (by decide : 8 + 2 ≤ _)⟩)
  dsimp only [Pt.U, Pt.locs, Pt.cells, Pt.slots] at X27 l27 y27 z27 st27 hQ27
  subst l27 y27 z27
  obtain ⟨b27, kb27, rfl, N27q, K27, VB27, sz27⟩ := hQ27
  have N27 := Fr.app N24 N27q
  have g_b27 : n0 ≤ b27 := Nat.le_trans Z25 sz27
  have sz_b27 : h0.size ≤ b27 := Nat.le_trans KP.1 sz27
  have ne_a_b27 : a ≠ b27 := Nat.ne_of_lt (Nat.lt_of_lt_of_le E.lt sz27)
  have ne_p4_b27 : p4 ≠ b27 := Nat.ne_of_lt (Nat.lt_of_lt_of_le V4.lt sz27)
  have ne_p5_b27 : p5 ≠ b27 := Nat.ne_of_lt (Nat.lt_of_lt_of_le V5.lt sz27)
  have ne_p6_b27 : p6 ≠ b27 := Nat.ne_of_lt (Nat.lt_of_lt_of_le V6.lt sz27)
  have ne_p7_b27 : p7 ≠ b27 := Nat.ne_of_lt (Nat.lt_of_lt_of_le V7.lt sz27)
  have ne_b7_b27 : b7 ≠ b27 := Nat.ne_of_lt (Nat.lt_of_lt_of_le VB7.lt sz27)
  have ne_b12_b27 : b12 ≠ b27 := Nat.ne_of_lt (Nat.lt_of_lt_of_le VB12.lt sz27)
  have ne_b17_b27 : b17 ≠ b27 := Nat.ne_of_lt (Nat.lt_of_lt_of_le VB17.lt sz27)
  have ne_b22_b27 : b22 ≠ b27 := Nat.ne_of_lt (Nat.lt_of_lt_of_le VB22.lt sz27)
  have E := E.keep K27
  have F_positives := F_positives.keep K27 nin0
  have F_negatives := F_negatives.keep K27 nin0
  have F_passes := F_passes.keep K27 nin0
  have F_firstPositives := F_firstPositives.keep K27 nin0
  have F_firstNegatives := F_firstNegatives.keep K27 nin0
  have V4 := V4.keep K27 nin0
  have F_sharedStateOf := F_sharedStateOf.keep K27 nin0
  have V5 := V5.keep K27 nin0
  have F_ownStateOf := F_ownStateOf.keep K27 nin0
  have V6 := V6.keep K27 nin0
  have F_slotOf := F_slotOf.keep K27 nin0
  have V7 := V7.keep K27 nin0
  have F_count := F_count.keep K27 nin0
  have VB7 := VB7.keep K27 nin0
  have VB12 := VB12.keep K27 nin0
  have VB17 := VB17.keep K27 nin0
  have VB22 := VB22.keep K27 nin0
  have Z28 := Nat.le_trans Z25 K27.1
  have KP := KP.trans K27 all0
  obtain ⟨T29, h29, X29, e29, W29, st29⟩ := putF X27 hx hZ hown (host := "") (Or.inl (hw _ (List.mem_of_getElem? (i := 18) rfl))) Via.refl rfl F_firstNegatives E (Or.inl (hw _ (List.mem_of_getElem? (i := 19) rfl))) (hw _ (List.mem_of_getElem? (i := 1) rfl)) (ty := (.array .long)) (by decide) rfl rfl (g := (mkF m 78 #[.val (.ref a), .val (.int (2 : Int32)), .val (.int (2 : Int32))] [(.ref b27), (.ref a)])) rfl rfl (hb hby own_d4_78)
  have E := E.wr W29
  have F_positives := F_positives.other W29 (Or.inr (slot_ne (Or.inl (hw _ (List.mem_of_getElem? (i := 11) rfl))) (Or.inl (hw _ (List.mem_of_getElem? (i := 19) rfl))) (by decide) (t := (.array .long)) (t' := (.array .long)) (by decide) (by decide)))
  have F_negatives := F_negatives.other W29 (Or.inr (slot_ne (Or.inl (hw _ (List.mem_of_getElem? (i := 13) rfl))) (Or.inl (hw _ (List.mem_of_getElem? (i := 19) rfl))) (by decide) (t := (.array .long)) (t' := (.array .long)) (by decide) (by decide)))
  have F_passes := F_passes.other W29 (Or.inr (slot_ne (Or.inl (hw _ (List.mem_of_getElem? (i := 15) rfl))) (Or.inl (hw _ (List.mem_of_getElem? (i := 19) rfl))) (by decide) (t := (.array .long)) (t' := (.array .long)) (by decide) (by decide)))
  have F_firstPositives := F_firstPositives.other W29 (Or.inr (slot_ne (Or.inl (hw _ (List.mem_of_getElem? (i := 17) rfl))) (Or.inl (hw _ (List.mem_of_getElem? (i := 19) rfl))) (by decide) (t := (.array .long)) (t' := (.array .long)) (by decide) (by decide)))
  have F_sharedStateOf := F_sharedStateOf.other W29 (Or.inr (slot_ne (Or.inl (hw _ (List.mem_of_getElem? (i := 22) rfl))) (Or.inl (hw _ (List.mem_of_getElem? (i := 19) rfl))) (by decide) (t := (.array .int)) (t' := (.array .long)) (by decide) (by decide)))
  have V5 := V5.other W29 (Ne.symm ne_a_p5)
  have F_ownStateOf := F_ownStateOf.other W29 (Or.inr (slot_ne (Or.inl (hw _ (List.mem_of_getElem? (i := 24) rfl))) (Or.inl (hw _ (List.mem_of_getElem? (i := 19) rfl))) (by decide) (t := (.array .int)) (t' := (.array .long)) (by decide) (by decide)))
  have V6 := V6.other W29 (Ne.symm ne_a_p6)
  have F_slotOf := F_slotOf.other W29 (Or.inr (slot_ne (Or.inl (hw _ (List.mem_of_getElem? (i := 30) rfl))) (Or.inl (hw _ (List.mem_of_getElem? (i := 19) rfl))) (by decide) (t := (.array .int)) (t' := (.array .long)) (by decide) (by decide)))
  have V7 := V7.other W29 (Ne.symm ne_a_p7)
  have F_count := F_count.other W29 (Or.inr (slot_ne (Or.inl (hw _ (List.mem_of_getElem? (i := 39) rfl))) (Or.inl (hw _ (List.mem_of_getElem? (i := 19) rfl))) (by decide) (t := .int) (t' := (.array .long)) (by decide) (by decide)))
  have VB7 := VB7.other W29 (Ne.symm ne_a_b7)
  have VB12 := VB12.other W29 (Ne.symm ne_a_b12)
  have VB17 := VB17.other W29 (Ne.symm ne_a_b17)
  have VB22 := VB22.other W29 (Ne.symm ne_a_b22)
  have VB27 := VB27.other W29 (Ne.symm ne_a_b27)
  have Z30 : n0 ≤ h29.size := Nat.le_trans Z28 (Keep.of_wr W29).1
  have KP := KP.wr W29 (Or.inl (List.mem_of_getElem? (i := 0) rfl))
  have F_firstNegatives := F_firstNegatives.same W29
  have N29 := Fr.snoc X29 N27 g
  obtain ⟨T31, X31, e31, st31⟩ := getF X29 hx hZ hown (host := "") (Or.inl (hw _ (List.mem_of_getElem? (i := 21) rfl))) Via.refl e29 F_sharedStateOf (g := (mkF m 83 #[.val (.ref a), .val (.int (2 : Int32)), .val (.int (2 : Int32))] [(.ref a), (.ref a)])) rfl rfl (hb hby own_d4_83)
  obtain ⟨_, _, ⟨T32, L32, k32, n32⟩, -, X32, ⟨Lc32, hQ32, l32, y32, z32⟩, st32⟩ := Jvm.LawKit.callS X31 hx (y := (⟨"java/util/Arrays", "copyOf", "([II)[I"⟩ : MethodName)) hown (mvT hZ (hw _ (List.mem_of_getElem? (i := 59) rfl))) (mvT hZ (hw _ (List.mem_of_getElem? (i := 60) rfl))) (mvT hZ (hw _ (List.mem_of_getElem? (i := 50) rfl))) (mvT hZ (hw _ (List.mem_of_getElem? (i := 61) rfl))) (by decide) (backOf (W := 1) (own_cpI l Z a0 hw [] p5 k_5 h29 n0 Z30 V5) hZ (hw _ (List.mem_of_getElem? (i := 61) rfl)) (hw _ (List.mem_of_getElem? (i := 50) rfl)) (by decide) (by decide)) (g := (mkF m 87 #[.val (.ref a), .val (.int (2 : Int32)), .val (.int (2 : Int32))] [(.int (2 : Int32)), (.ref p5), (.ref a)])) rfl (by rw [hml]; rfl) (argsL := [(.ref p5), (.int (2 : Int32))]) (rest := [(.ref a)]) (lenOf own_pd2 rfl) rfl (by show 2 * 0 + _ ≤ _; exact Nat.le_of_eq rfl) (hb hby own_d4_87) (fun _ _ => ⟨rfl, e31, (by decide : 5 + 1 ≤ _), (by decide : 10 + 2 ≤ _)⟩)
  dsimp only [Pt.U, Pt.locs, Pt.cells, Pt.slots] at X32 l32 y32 z32 st32 hQ32
  subst l32 y32 z32
  obtain ⟨b32, kb32, rfl, N32q, K32, VB32, sz32⟩ := hQ32
  have N32 := Fr.app N29 N32q
  have g_b32 : n0 ≤ b32 := Nat.le_trans Z30 sz32
  have sz_b32 : h0.size ≤ b32 := Nat.le_trans KP.1 sz32
  have ne_a_b32 : a ≠ b32 := Nat.ne_of_lt (Nat.lt_of_lt_of_le E.lt sz32)
  have ne_p5_b32 : p5 ≠ b32 := Nat.ne_of_lt (Nat.lt_of_lt_of_le V5.lt sz32)
  have ne_p6_b32 : p6 ≠ b32 := Nat.ne_of_lt (Nat.lt_of_lt_of_le V6.lt sz32)
  have ne_p7_b32 : p7 ≠ b32 := Nat.ne_of_lt (Nat.lt_of_lt_of_le V7.lt sz32)
  have ne_b7_b32 : b7 ≠ b32 := Nat.ne_of_lt (Nat.lt_of_lt_of_le VB7.lt sz32)
  have ne_b12_b32 : b12 ≠ b32 := Nat.ne_of_lt (Nat.lt_of_lt_of_le VB12.lt sz32)
  have ne_b17_b32 : b17 ≠ b32 := Nat.ne_of_lt (Nat.lt_of_lt_of_le VB17.lt sz32)
  have ne_b22_b32 : b22 ≠ b32 := Nat.ne_of_lt (Nat.lt_of_lt_of_le VB22.lt sz32)
  have ne_b27_b32 : b27 ≠ b32 := Nat.ne_of_lt (Nat.lt_of_lt_of_le VB27.lt sz32)
  have E := E.keep K32
  have F_positives := F_positives.keep K32 nin0
  have F_negatives := F_negatives.keep K32 nin0
  have F_passes := F_passes.keep K32 nin0
  have F_firstPositives := F_firstPositives.keep K32 nin0
  have F_firstNegatives := F_firstNegatives.keep K32 nin0
  have F_sharedStateOf := F_sharedStateOf.keep K32 nin0
  have V5 := V5.keep K32 nin0
  have F_ownStateOf := F_ownStateOf.keep K32 nin0
  have V6 := V6.keep K32 nin0
  have F_slotOf := F_slotOf.keep K32 nin0
  have V7 := V7.keep K32 nin0
  have F_count := F_count.keep K32 nin0
  have VB7 := VB7.keep K32 nin0
  have VB12 := VB12.keep K32 nin0
  have VB17 := VB17.keep K32 nin0
  have VB22 := VB22.keep K32 nin0
  have VB27 := VB27.keep K32 nin0
  have Z33 := Nat.le_trans Z30 K32.1
  have KP := KP.trans K32 all0
  obtain ⟨T34, h34, X34, e34, W34, st34⟩ := putF X32 hx hZ hown (host := "") (Or.inl (hw _ (List.mem_of_getElem? (i := 21) rfl))) Via.refl rfl F_sharedStateOf E (Or.inl (hw _ (List.mem_of_getElem? (i := 22) rfl))) (hw _ (List.mem_of_getElem? (i := 1) rfl)) (ty := (.array .int)) (by decide) rfl rfl (g := (mkF m 90 #[.val (.ref a), .val (.int (2 : Int32)), .val (.int (2 : Int32))] [(.ref b32), (.ref a)])) rfl rfl (hb hby own_d4_90)
  have E := E.wr W34
  have F_positives := F_positives.other W34 (Or.inr (slot_ne (Or.inl (hw _ (List.mem_of_getElem? (i := 11) rfl))) (Or.inl (hw _ (List.mem_of_getElem? (i := 22) rfl))) (by decide) (t := (.array .long)) (t' := (.array .int)) (by decide) (by decide)))
  have F_negatives := F_negatives.other W34 (Or.inr (slot_ne (Or.inl (hw _ (List.mem_of_getElem? (i := 13) rfl))) (Or.inl (hw _ (List.mem_of_getElem? (i := 22) rfl))) (by decide) (t := (.array .long)) (t' := (.array .int)) (by decide) (by decide)))
  have F_passes := F_passes.other W34 (Or.inr (slot_ne (Or.inl (hw _ (List.mem_of_getElem? (i := 15) rfl))) (Or.inl (hw _ (List.mem_of_getElem? (i := 22) rfl))) (by decide) (t := (.array .long)) (t' := (.array .int)) (by decide) (by decide)))
  have F_firstPositives := F_firstPositives.other W34 (Or.inr (slot_ne (Or.inl (hw _ (List.mem_of_getElem? (i := 17) rfl))) (Or.inl (hw _ (List.mem_of_getElem? (i := 22) rfl))) (by decide) (t := (.array .long)) (t' := (.array .int)) (by decide) (by decide)))
  have F_firstNegatives := F_firstNegatives.other W34 (Or.inr (slot_ne (Or.inl (hw _ (List.mem_of_getElem? (i := 19) rfl))) (Or.inl (hw _ (List.mem_of_getElem? (i := 22) rfl))) (by decide) (t := (.array .long)) (t' := (.array .int)) (by decide) (by decide)))
  have F_ownStateOf := F_ownStateOf.other W34 (Or.inr (slot_ne (Or.inl (hw _ (List.mem_of_getElem? (i := 24) rfl))) (Or.inl (hw _ (List.mem_of_getElem? (i := 22) rfl))) (by decide) (t := (.array .int)) (t' := (.array .int)) (by decide) (by decide)))
  have V6 := V6.other W34 (Ne.symm ne_a_p6)
  have F_slotOf := F_slotOf.other W34 (Or.inr (slot_ne (Or.inl (hw _ (List.mem_of_getElem? (i := 30) rfl))) (Or.inl (hw _ (List.mem_of_getElem? (i := 22) rfl))) (by decide) (t := (.array .int)) (t' := (.array .int)) (by decide) (by decide)))
  have V7 := V7.other W34 (Ne.symm ne_a_p7)
  have F_count := F_count.other W34 (Or.inr (slot_ne (Or.inl (hw _ (List.mem_of_getElem? (i := 39) rfl))) (Or.inl (hw _ (List.mem_of_getElem? (i := 22) rfl))) (by decide) (t := .int) (t' := (.array .int)) (by decide) (by decide)))
  have VB7 := VB7.other W34 (Ne.symm ne_a_b7)
  have VB12 := VB12.other W34 (Ne.symm ne_a_b12)
  have VB17 := VB17.other W34 (Ne.symm ne_a_b17)
  have VB22 := VB22.other W34 (Ne.symm ne_a_b22)
  have VB27 := VB27.other W34 (Ne.symm ne_a_b27)
  have VB32 := VB32.other W34 (Ne.symm ne_a_b32)
  have Z35 : n0 ≤ h34.size := Nat.le_trans Z33 (Keep.of_wr W34).1
  have KP := KP.wr W34 (Or.inl (List.mem_of_getElem? (i := 0) rfl))
  have F_sharedStateOf := F_sharedStateOf.same W34
  have N34 := Fr.snoc X34 N32 g
  obtain ⟨T36, X36, e36, st36⟩ := getF X34 hx hZ hown (host := "") (Or.inl (hw _ (List.mem_of_getElem? (i := 23) rfl))) Via.refl e34 F_ownStateOf (g := (mkF m 95 #[.val (.ref a), .val (.int (2 : Int32)), .val (.int (2 : Int32))] [(.ref a), (.ref a)])) rfl rfl (hb hby own_d4_95)
  obtain ⟨_, _, ⟨T37, L37, k37, n37⟩, -, X37, ⟨Lc37, hQ37, l37, y37, z37⟩, st37⟩ := Jvm.LawKit.callS X36 hx (y := (⟨"java/util/Arrays", "copyOf", "([II)[I"⟩ : MethodName)) hown (mvT hZ (hw _ (List.mem_of_getElem? (i := 59) rfl))) (mvT hZ (hw _ (List.mem_of_getElem? (i := 60) rfl))) (mvT hZ (hw _ (List.mem_of_getElem? (i := 50) rfl))) (mvT hZ (hw _ (List.mem_of_getElem? (i := 61) rfl))) (by decide) (backOf (W := 1) (own_cpI l Z a0 hw [] p6 k_6 h34 n0 Z35 V6) hZ (hw _ (List.mem_of_getElem? (i := 61) rfl)) (hw _ (List.mem_of_getElem? (i := 50) rfl)) (by decide) (by decide)) (g := (mkF m 99 #[.val (.ref a), .val (.int (2 : Int32)), .val (.int (2 : Int32))] [(.int (2 : Int32)), (.ref p6), (.ref a)])) rfl (by rw [hml]; rfl) (argsL := [(.ref p6), (.int (2 : Int32))]) (rest := [(.ref a)]) (lenOf own_pd2 rfl) rfl (by show 2 * 0 + _ ≤ _; exact Nat.le_of_eq rfl) (hb hby own_d4_99) (fun _ _ => ⟨rfl, e36, (by decide : 6 + 1 ≤ _), (by decide : 12 + 2 ≤ _)⟩)
  dsimp only [Pt.U, Pt.locs, Pt.cells, Pt.slots] at X37 l37 y37 z37 st37 hQ37
  subst l37 y37 z37
  obtain ⟨b37, kb37, rfl, N37q, K37, VB37, sz37⟩ := hQ37
  have N37 := Fr.app N34 N37q
  have g_b37 : n0 ≤ b37 := Nat.le_trans Z35 sz37
  have sz_b37 : h0.size ≤ b37 := Nat.le_trans KP.1 sz37
  have ne_a_b37 : a ≠ b37 := Nat.ne_of_lt (Nat.lt_of_lt_of_le E.lt sz37)
  have ne_p6_b37 : p6 ≠ b37 := Nat.ne_of_lt (Nat.lt_of_lt_of_le V6.lt sz37)
  have ne_p7_b37 : p7 ≠ b37 := Nat.ne_of_lt (Nat.lt_of_lt_of_le V7.lt sz37)
  have ne_b7_b37 : b7 ≠ b37 := Nat.ne_of_lt (Nat.lt_of_lt_of_le VB7.lt sz37)
  have ne_b12_b37 : b12 ≠ b37 := Nat.ne_of_lt (Nat.lt_of_lt_of_le VB12.lt sz37)
  have ne_b17_b37 : b17 ≠ b37 := Nat.ne_of_lt (Nat.lt_of_lt_of_le VB17.lt sz37)
  have ne_b22_b37 : b22 ≠ b37 := Nat.ne_of_lt (Nat.lt_of_lt_of_le VB22.lt sz37)
  have ne_b27_b37 : b27 ≠ b37 := Nat.ne_of_lt (Nat.lt_of_lt_of_le VB27.lt sz37)
  have ne_b32_b37 : b32 ≠ b37 := Nat.ne_of_lt (Nat.lt_of_lt_of_le VB32.lt sz37)
  have E := E.keep K37
  have F_positives := F_positives.keep K37 nin0
  have F_negatives := F_negatives.keep K37 nin0
  have F_passes := F_passes.keep K37 nin0
  have F_firstPositives := F_firstPositives.keep K37 nin0
  have F_firstNegatives := F_firstNegatives.keep K37 nin0
  have F_sharedStateOf := F_sharedStateOf.keep K37 nin0
  have F_ownStateOf := F_ownStateOf.keep K37 nin0
  have V6 := V6.keep K37 nin0
  have F_slotOf := F_slotOf.keep K37 nin0
  have V7 := V7.keep K37 nin0
  have F_count := F_count.keep K37 nin0
  have VB7 := VB7.keep K37 nin0
  have VB12 := VB12.keep K37 nin0
  have VB17 := VB17.keep K37 nin0
  have VB22 := VB22.keep K37 nin0
  have VB27 := VB27.keep K37 nin0
  have VB32 := VB32.keep K37 nin0
  have Z38 := Nat.le_trans Z35 K37.1
  have KP := KP.trans K37 all0
  obtain ⟨T39, h39, X39, e39, W39, st39⟩ := putF X37 hx hZ hown (host := "") (Or.inl (hw _ (List.mem_of_getElem? (i := 23) rfl))) Via.refl rfl F_ownStateOf E (Or.inl (hw _ (List.mem_of_getElem? (i := 24) rfl))) (hw _ (List.mem_of_getElem? (i := 1) rfl)) (ty := (.array .int)) (by decide) rfl rfl (g := (mkF m 102 #[.val (.ref a), .val (.int (2 : Int32)), .val (.int (2 : Int32))] [(.ref b37), (.ref a)])) rfl rfl (hb hby own_d4_102)
  have E := E.wr W39
  have F_positives := F_positives.other W39 (Or.inr (slot_ne (Or.inl (hw _ (List.mem_of_getElem? (i := 11) rfl))) (Or.inl (hw _ (List.mem_of_getElem? (i := 24) rfl))) (by decide) (t := (.array .long)) (t' := (.array .int)) (by decide) (by decide)))
  have F_negatives := F_negatives.other W39 (Or.inr (slot_ne (Or.inl (hw _ (List.mem_of_getElem? (i := 13) rfl))) (Or.inl (hw _ (List.mem_of_getElem? (i := 24) rfl))) (by decide) (t := (.array .long)) (t' := (.array .int)) (by decide) (by decide)))
  have F_passes := F_passes.other W39 (Or.inr (slot_ne (Or.inl (hw _ (List.mem_of_getElem? (i := 15) rfl))) (Or.inl (hw _ (List.mem_of_getElem? (i := 24) rfl))) (by decide) (t := (.array .long)) (t' := (.array .int)) (by decide) (by decide)))
  have F_firstPositives := F_firstPositives.other W39 (Or.inr (slot_ne (Or.inl (hw _ (List.mem_of_getElem? (i := 17) rfl))) (Or.inl (hw _ (List.mem_of_getElem? (i := 24) rfl))) (by decide) (t := (.array .long)) (t' := (.array .int)) (by decide) (by decide)))
  have F_firstNegatives := F_firstNegatives.other W39 (Or.inr (slot_ne (Or.inl (hw _ (List.mem_of_getElem? (i := 19) rfl))) (Or.inl (hw _ (List.mem_of_getElem? (i := 24) rfl))) (by decide) (t := (.array .long)) (t' := (.array .int)) (by decide) (by decide)))
  have F_sharedStateOf := F_sharedStateOf.other W39 (Or.inr (slot_ne (Or.inl (hw _ (List.mem_of_getElem? (i := 22) rfl))) (Or.inl (hw _ (List.mem_of_getElem? (i := 24) rfl))) (by decide) (t := (.array .int)) (t' := (.array .int)) (by decide) (by decide)))
  have F_slotOf := F_slotOf.other W39 (Or.inr (slot_ne (Or.inl (hw _ (List.mem_of_getElem? (i := 30) rfl))) (Or.inl (hw _ (List.mem_of_getElem? (i := 24) rfl))) (by decide) (t := (.array .int)) (t' := (.array .int)) (by decide) (by decide)))
  have V7 := V7.other W39 (Ne.symm ne_a_p7)
  have F_count := F_count.other W39 (Or.inr (slot_ne (Or.inl (hw _ (List.mem_of_getElem? (i := 39) rfl))) (Or.inl (hw _ (List.mem_of_getElem? (i := 24) rfl))) (by decide) (t := .int) (t' := (.array .int)) (by decide) (by decide)))
  have VB7 := VB7.other W39 (Ne.symm ne_a_b7)
  have VB12 := VB12.other W39 (Ne.symm ne_a_b12)
  have VB17 := VB17.other W39 (Ne.symm ne_a_b17)
  have VB22 := VB22.other W39 (Ne.symm ne_a_b22)
  have VB27 := VB27.other W39 (Ne.symm ne_a_b27)
  have VB32 := VB32.other W39 (Ne.symm ne_a_b32)
  have VB37 := VB37.other W39 (Ne.symm ne_a_b37)
  have Z40 : n0 ≤ h39.size := Nat.le_trans Z38 (Keep.of_wr W39).1
  have KP := KP.wr W39 (Or.inl (List.mem_of_getElem? (i := 0) rfl))
  have F_ownStateOf := F_ownStateOf.same W39
  have N39 := Fr.snoc X39 N37 g
  obtain ⟨T41, X41, e41, st41⟩ := getF X39 hx hZ hown (host := "") (Or.inl (hw _ (List.mem_of_getElem? (i := 29) rfl))) Via.refl e39 F_slotOf (g := (mkF m 107 #[.val (.ref a), .val (.int (2 : Int32)), .val (.int (2 : Int32))] [(.ref a), (.ref a)])) rfl rfl (hb hby own_d4_107)
  obtain ⟨_, _, ⟨T42, L42, k42, n42⟩, -, X42, ⟨Lc42, hQ42, l42, y42, z42⟩, st42⟩ := Jvm.LawKit.callS X41 hx (y := (⟨"java/util/Arrays", "copyOf", "([II)[I"⟩ : MethodName)) hown (mvT hZ (hw _ (List.mem_of_getElem? (i := 59) rfl))) (mvT hZ (hw _ (List.mem_of_getElem? (i := 60) rfl))) (mvT hZ (hw _ (List.mem_of_getElem? (i := 50) rfl))) (mvT hZ (hw _ (List.mem_of_getElem? (i := 61) rfl))) (by decide) (backOf (W := 1) (own_cpI l Z a0 hw [] p7 k_7 h39 n0 Z40 V7) hZ (hw _ (List.mem_of_getElem? (i := 61) rfl)) (hw _ (List.mem_of_getElem? (i := 50) rfl)) (by decide) (by decide)) (g := (mkF m 111 #[.val (.ref a), .val (.int (2 : Int32)), .val (.int (2 : Int32))] [(.int (2 : Int32)), (.ref p7), (.ref a)])) rfl (by rw [hml]; rfl) (argsL := [(.ref p7), (.int (2 : Int32))]) (rest := [(.ref a)]) (lenOf own_pd2 rfl) rfl (by show 2 * 0 + _ ≤ _; exact Nat.le_of_eq rfl) (hb hby own_d4_111) (fun _ _ => ⟨rfl, e41, (by decide : 7 + 1 ≤ _), (by decide : 14 + 2 ≤ _)⟩)
  dsimp only [Pt.U, Pt.locs, Pt.cells, Pt.slots] at X42 l42 y42 z42 st42 hQ42
  subst l42 y42 z42
  obtain ⟨b42, kb42, rfl, N42q, K42, VB42, sz42⟩ := hQ42
  have N42 := Fr.app N39 N42q
  have g_b42 : n0 ≤ b42 := Nat.le_trans Z40 sz42
  have sz_b42 : h0.size ≤ b42 := Nat.le_trans KP.1 sz42
  have ne_a_b42 : a ≠ b42 := Nat.ne_of_lt (Nat.lt_of_lt_of_le E.lt sz42)
  have ne_p7_b42 : p7 ≠ b42 := Nat.ne_of_lt (Nat.lt_of_lt_of_le V7.lt sz42)
  have ne_b7_b42 : b7 ≠ b42 := Nat.ne_of_lt (Nat.lt_of_lt_of_le VB7.lt sz42)
  have ne_b12_b42 : b12 ≠ b42 := Nat.ne_of_lt (Nat.lt_of_lt_of_le VB12.lt sz42)
  have ne_b17_b42 : b17 ≠ b42 := Nat.ne_of_lt (Nat.lt_of_lt_of_le VB17.lt sz42)
  have ne_b22_b42 : b22 ≠ b42 := Nat.ne_of_lt (Nat.lt_of_lt_of_le VB22.lt sz42)
  have ne_b27_b42 : b27 ≠ b42 := Nat.ne_of_lt (Nat.lt_of_lt_of_le VB27.lt sz42)
  have ne_b32_b42 : b32 ≠ b42 := Nat.ne_of_lt (Nat.lt_of_lt_of_le VB32.lt sz42)
  have ne_b37_b42 : b37 ≠ b42 := Nat.ne_of_lt (Nat.lt_of_lt_of_le VB37.lt sz42)
  have E := E.keep K42
  have F_positives := F_positives.keep K42 nin0
  have F_negatives := F_negatives.keep K42 nin0
  have F_passes := F_passes.keep K42 nin0
  have F_firstPositives := F_firstPositives.keep K42 nin0
  have F_firstNegatives := F_firstNegatives.keep K42 nin0
  have F_sharedStateOf := F_sharedStateOf.keep K42 nin0
  have F_ownStateOf := F_ownStateOf.keep K42 nin0
  have F_slotOf := F_slotOf.keep K42 nin0
  have V7 := V7.keep K42 nin0
  have F_count := F_count.keep K42 nin0
  have VB7 := VB7.keep K42 nin0
  have VB12 := VB12.keep K42 nin0
  have VB17 := VB17.keep K42 nin0
  have VB22 := VB22.keep K42 nin0
  have VB27 := VB27.keep K42 nin0
  have VB32 := VB32.keep K42 nin0
  have VB37 := VB37.keep K42 nin0
  have Z43 := Nat.le_trans Z40 K42.1
  have KP := KP.trans K42 all0
  obtain ⟨T44, h44, X44, e44, W44, st44⟩ := putF X42 hx hZ hown (host := "") (Or.inl (hw _ (List.mem_of_getElem? (i := 29) rfl))) Via.refl rfl F_slotOf E (Or.inl (hw _ (List.mem_of_getElem? (i := 30) rfl))) (hw _ (List.mem_of_getElem? (i := 1) rfl)) (ty := (.array .int)) (by decide) rfl rfl (g := (mkF m 114 #[.val (.ref a), .val (.int (2 : Int32)), .val (.int (2 : Int32))] [(.ref b42), (.ref a)])) rfl rfl (hb hby own_d4_114)
  have E := E.wr W44
  have F_positives := F_positives.other W44 (Or.inr (slot_ne (Or.inl (hw _ (List.mem_of_getElem? (i := 11) rfl))) (Or.inl (hw _ (List.mem_of_getElem? (i := 30) rfl))) (by decide) (t := (.array .long)) (t' := (.array .int)) (by decide) (by decide)))
  have F_negatives := F_negatives.other W44 (Or.inr (slot_ne (Or.inl (hw _ (List.mem_of_getElem? (i := 13) rfl))) (Or.inl (hw _ (List.mem_of_getElem? (i := 30) rfl))) (by decide) (t := (.array .long)) (t' := (.array .int)) (by decide) (by decide)))
  have F_passes := F_passes.other W44 (Or.inr (slot_ne (Or.inl (hw _ (List.mem_of_getElem? (i := 15) rfl))) (Or.inl (hw _ (List.mem_of_getElem? (i := 30) rfl))) (by decide) (t := (.array .long)) (t' := (.array .int)) (by decide) (by decide)))
  have F_firstPositives := F_firstPositives.other W44 (Or.inr (slot_ne (Or.inl (hw _ (List.mem_of_getElem? (i := 17) rfl))) (Or.inl (hw _ (List.mem_of_getElem? (i := 30) rfl))) (by decide) (t := (.array .long)) (t' := (.array .int)) (by decide) (by decide)))
  have F_firstNegatives := F_firstNegatives.other W44 (Or.inr (slot_ne (Or.inl (hw _ (List.mem_of_getElem? (i := 19) rfl))) (Or.inl (hw _ (List.mem_of_getElem? (i := 30) rfl))) (by decide) (t := (.array .long)) (t' := (.array .int)) (by decide) (by decide)))
  have F_sharedStateOf := F_sharedStateOf.other W44 (Or.inr (slot_ne (Or.inl (hw _ (List.mem_of_getElem? (i := 22) rfl))) (Or.inl (hw _ (List.mem_of_getElem? (i := 30) rfl))) (by decide) (t := (.array .int)) (t' := (.array .int)) (by decide) (by decide)))
  have F_ownStateOf := F_ownStateOf.other W44 (Or.inr (slot_ne (Or.inl (hw _ (List.mem_of_getElem? (i := 24) rfl))) (Or.inl (hw _ (List.mem_of_getElem? (i := 30) rfl))) (by decide) (t := (.array .int)) (t' := (.array .int)) (by decide) (by decide)))
  have F_count := F_count.other W44 (Or.inr (slot_ne (Or.inl (hw _ (List.mem_of_getElem? (i := 39) rfl))) (Or.inl (hw _ (List.mem_of_getElem? (i := 30) rfl))) (by decide) (t := .int) (t' := (.array .int)) (by decide) (by decide)))
  have VB7 := VB7.other W44 (Ne.symm ne_a_b7)
  have VB12 := VB12.other W44 (Ne.symm ne_a_b12)
  have VB17 := VB17.other W44 (Ne.symm ne_a_b17)
  have VB22 := VB22.other W44 (Ne.symm ne_a_b22)
  have VB27 := VB27.other W44 (Ne.symm ne_a_b27)
  have VB32 := VB32.other W44 (Ne.symm ne_a_b32)
  have VB37 := VB37.other W44 (Ne.symm ne_a_b37)
  have VB42 := VB42.other W44 (Ne.symm ne_a_b42)
  have Z45 : n0 ≤ h44.size := Nat.le_trans Z43 (Keep.of_wr W44).1
  have KP := KP.wr W44 (Or.inl (List.mem_of_getElem? (i := 0) rfl))
  have F_slotOf := F_slotOf.same W44
  have N44 := Fr.snoc X44 N42 g
  obtain ⟨fs, hr, hrun, hended, hW, hsame⟩ := X44.leave (v := none) (fun _ => rfl)
  refine ⟨_, _, pre0 _ ?_, hrun, hended, _, _, rfl, ?_, ⟨_, rfl⟩, hW, hsame.mono (by decide) (by decide)⟩
  · show Steps p.tables e below (s₁.setTop (mkF m 0 #[.val (.ref a), .val (.int (2 : Int32)), .unset] [])) _
    refine XS.aloadN X0.here hx rfl (hb hby own_d4_0) rfl rfl ?_
    show Steps p.tables e below (s₁.setTop (mkF m 1 #[.val (.ref a), .val (.int (2 : Int32)), .unset] [(.ref a)])) _
    refine st1 _ ?_
    show Steps p.tables e below (T1.setTop (mkF m 4 #[.val (.ref a), .val (.int (2 : Int32)), .unset] [(.ref p0)])) _
    refine X1.arraylength hx (by rw [e1]; exact Ar2.1) (State.isArrayOf_alike hZ.alike Ar2.2.1) (g := (mkF m 4 #[.val (.ref a), .val (.int (2 : Int32)), .unset] [(.ref p0)])) rfl rfl (hb hby own_d4_4) _ ?_
    rw [len_of S2 M2]
    show Steps p.tables e below (T1.setTop (mkF m 5 #[.val (.ref a), .val (.int (2 : Int32)), .unset] [(.int (0 : Int32))])) _
    refine XS.iloadN X1.here hx rfl (hb hby own_d4_5) rfl ?_
    show Steps p.tables e below (T1.setTop (mkF m 6 #[.val (.ref a), .val (.int (2 : Int32)), .unset] [(.int (2 : Int32)), (.int (0 : Int32))])) _
    refine XS.icmpNo X1.here hx rfl (hb hby own_d4_6) rfl (tlt (by decide : (0 : Int32) < (2 : Int32))).2.1 ?_
    show Steps p.tables e below (T1.setTop (mkF m 9 #[.val (.ref a), .val (.int (2 : Int32)), .unset] [])) _
    refine XS.iloadN X1.here hx rfl (hb hby own_d4_9) rfl ?_
    show Steps p.tables e below (T1.setTop (mkF m 10 #[.val (.ref a), .val (.int (2 : Int32)), .unset] [(.int (2 : Int32))])) _
    refine XS.aloadN X1.here hx rfl (hb hby own_d4_10) rfl rfl ?_
    show Steps p.tables e below (T1.setTop (mkF m 11 #[.val (.ref a), .val (.int (2 : Int32)), .unset] [(.ref a), (.int (2 : Int32))])) _
    refine st3 _ ?_
    show Steps p.tables e below (T3.setTop (mkF m 14 #[.val (.ref a), .val (.int (2 : Int32)), .unset] [(.ref p0), (.int (2 : Int32))])) _
    refine X3.arraylength hx (by rw [e3]; exact Ar4.1) (State.isArrayOf_alike hZ.alike Ar4.2.1) (g := (mkF m 14 #[.val (.ref a), .val (.int (2 : Int32)), .unset] [(.ref p0), (.int (2 : Int32))])) rfl rfl (hb hby own_d4_14) _ ?_
    rw [len_of S4 M4]
    show Steps p.tables e below (T3.setTop (mkF m 15 #[.val (.ref a), .val (.int (2 : Int32)), .unset] [(.int (0 : Int32)), (.int (2 : Int32))])) _
    refine XS.iconst X3.here hx rfl (hb hby own_d4_15) ?_
    show Steps p.tables e below (T3.setTop (mkF m 16 #[.val (.ref a), .val (.int (2 : Int32)), .unset] [(.int (2 : Int32)), (.int (0 : Int32)), (.int (2 : Int32))])) _
    refine XS.imul X3.here hx rfl (hb hby own_d4_16) rfl ?_
    show Steps p.tables e below (T3.setTop (mkF m 17 #[.val (.ref a), .val (.int (2 : Int32)), .unset] [(.int (0 : Int32)), (.int (2 : Int32))])) _
    refine st5 _ ?_
    show Steps p.tables e below (T5.setTop (mkF m 20 #[.val (.ref a), .val (.int (2 : Int32)), .unset] [(.int (2 : Int32))])) _
    refine XS.istoreN X5.here hx rfl (hb hby own_d4_20) rfl (l' := #[.val (.ref a), .val (.int (2 : Int32)), .val (.int (2 : Int32))]) rfl ?_
    show Steps p.tables e below (T5.setTop (mkF m 21 #[.val (.ref a), .val (.int (2 : Int32)), .val (.int (2 : Int32))] [])) _
    refine XS.aloadN X5.here hx rfl (hb hby own_d4_21) rfl rfl ?_
    show Steps p.tables e below (T5.setTop (mkF m 22 #[.val (.ref a), .val (.int (2 : Int32)), .val (.int (2 : Int32))] [(.ref a)])) _
    refine XS.aloadN X5.here hx rfl (hb hby own_d4_22) rfl rfl ?_
    show Steps p.tables e below (T5.setTop (mkF m 23 #[.val (.ref a), .val (.int (2 : Int32)), .val (.int (2 : Int32))] [(.ref a), (.ref a)])) _
    refine st6 _ ?_
    show Steps p.tables e below (T6.setTop (mkF m 26 #[.val (.ref a), .val (.int (2 : Int32)), .val (.int (2 : Int32))] [(.ref p0), (.ref a)])) _
    refine XS.iloadN X6.here hx rfl (hb hby own_d4_26) rfl ?_
    show Steps p.tables e below (T6.setTop (mkF m 27 #[.val (.ref a), .val (.int (2 : Int32)), .val (.int (2 : Int32))] [(.int (2 : Int32)), (.ref p0), (.ref a)])) _
    refine st7 _ ?_
    show Steps p.tables e below (T7.setTop (mkF m 30 #[.val (.ref a), .val (.int (2 : Int32)), .val (.int (2 : Int32))] [(.ref b7), (.ref a)])) _
    refine st9 _ ?_
    show Steps p.tables e below (T9.setTop (mkF m 33 #[.val (.ref a), .val (.int (2 : Int32)), .val (.int (2 : Int32))] [])) _
    refine XS.aloadN X9.here hx rfl (hb hby own_d4_33) rfl rfl ?_
    show Steps p.tables e below (T9.setTop (mkF m 34 #[.val (.ref a), .val (.int (2 : Int32)), .val (.int (2 : Int32))] [(.ref a)])) _
    refine XS.aloadN X9.here hx rfl (hb hby own_d4_34) rfl rfl ?_
    show Steps p.tables e below (T9.setTop (mkF m 35 #[.val (.ref a), .val (.int (2 : Int32)), .val (.int (2 : Int32))] [(.ref a), (.ref a)])) _
    refine st11 _ ?_
    show Steps p.tables e below (T11.setTop (mkF m 38 #[.val (.ref a), .val (.int (2 : Int32)), .val (.int (2 : Int32))] [(.ref p1), (.ref a)])) _
    refine XS.iloadN X11.here hx rfl (hb hby own_d4_38) rfl ?_
    show Steps p.tables e below (T11.setTop (mkF m 39 #[.val (.ref a), .val (.int (2 : Int32)), .val (.int (2 : Int32))] [(.int (2 : Int32)), (.ref p1), (.ref a)])) _
    refine st12 _ ?_
    show Steps p.tables e below (T12.setTop (mkF m 42 #[.val (.ref a), .val (.int (2 : Int32)), .val (.int (2 : Int32))] [(.ref b12), (.ref a)])) _
    refine st14 _ ?_
    show Steps p.tables e below (T14.setTop (mkF m 45 #[.val (.ref a), .val (.int (2 : Int32)), .val (.int (2 : Int32))] [])) _
    refine XS.aloadN X14.here hx rfl (hb hby own_d4_45) rfl rfl ?_
    show Steps p.tables e below (T14.setTop (mkF m 46 #[.val (.ref a), .val (.int (2 : Int32)), .val (.int (2 : Int32))] [(.ref a)])) _
    refine XS.aloadN X14.here hx rfl (hb hby own_d4_46) rfl rfl ?_
    show Steps p.tables e below (T14.setTop (mkF m 47 #[.val (.ref a), .val (.int (2 : Int32)), .val (.int (2 : Int32))] [(.ref a), (.ref a)])) _
    refine st16 _ ?_
    show Steps p.tables e below (T16.setTop (mkF m 50 #[.val (.ref a), .val (.int (2 : Int32)), .val (.int (2 : Int32))] [(.ref p2), (.ref a)])) _
    refine XS.iloadN X16.here hx rfl (hb hby own_d4_50) rfl ?_
    show Steps p.tables e below (T16.setTop (mkF m 51 #[.val (.ref a), .val (.int (2 : Int32)), .val (.int (2 : Int32))] [(.int (2 : Int32)), (.ref p2), (.ref a)])) _
    refine st17 _ ?_
    show Steps p.tables e below (T17.setTop (mkF m 54 #[.val (.ref a), .val (.int (2 : Int32)), .val (.int (2 : Int32))] [(.ref b17), (.ref a)])) _
    refine st19 _ ?_
    show Steps p.tables e below (T19.setTop (mkF m 57 #[.val (.ref a), .val (.int (2 : Int32)), .val (.int (2 : Int32))] [])) _
    refine XS.aloadN X19.here hx rfl (hb hby own_d4_57) rfl rfl ?_
    show Steps p.tables e below (T19.setTop (mkF m 58 #[.val (.ref a), .val (.int (2 : Int32)), .val (.int (2 : Int32))] [(.ref a)])) _
    refine XS.aloadN X19.here hx rfl (hb hby own_d4_58) rfl rfl ?_
    show Steps p.tables e below (T19.setTop (mkF m 59 #[.val (.ref a), .val (.int (2 : Int32)), .val (.int (2 : Int32))] [(.ref a), (.ref a)])) _
    refine st21 _ ?_
    show Steps p.tables e below (T21.setTop (mkF m 62 #[.val (.ref a), .val (.int (2 : Int32)), .val (.int (2 : Int32))] [(.ref p3), (.ref a)])) _
    refine XS.iloadN X21.here hx rfl (hb hby own_d4_62) rfl ?_
    show Steps p.tables e below (T21.setTop (mkF m 63 #[.val (.ref a), .val (.int (2 : Int32)), .val (.int (2 : Int32))] [(.int (2 : Int32)), (.ref p3), (.ref a)])) _
    refine st22 _ ?_
    show Steps p.tables e below (T22.setTop (mkF m 66 #[.val (.ref a), .val (.int (2 : Int32)), .val (.int (2 : Int32))] [(.ref b22), (.ref a)])) _
    refine st24 _ ?_
    show Steps p.tables e below (T24.setTop (mkF m 69 #[.val (.ref a), .val (.int (2 : Int32)), .val (.int (2 : Int32))] [])) _
    refine XS.aloadN X24.here hx rfl (hb hby own_d4_69) rfl rfl ?_
    show Steps p.tables e below (T24.setTop (mkF m 70 #[.val (.ref a), .val (.int (2 : Int32)), .val (.int (2 : Int32))] [(.ref a)])) _
    refine XS.aloadN X24.here hx rfl (hb hby own_d4_70) rfl rfl ?_
    show Steps p.tables e below (T24.setTop (mkF m 71 #[.val (.ref a), .val (.int (2 : Int32)), .val (.int (2 : Int32))] [(.ref a), (.ref a)])) _
    refine st26 _ ?_
    show Steps p.tables e below (T26.setTop (mkF m 74 #[.val (.ref a), .val (.int (2 : Int32)), .val (.int (2 : Int32))] [(.ref p4), (.ref a)])) _
    refine XS.iloadN X26.here hx rfl (hb hby own_d4_74) rfl ?_
    show Steps p.tables e below (T26.setTop (mkF m 75 #[.val (.ref a), .val (.int (2 : Int32)), .val (.int (2 : Int32))] [(.int (2 : Int32)), (.ref p4), (.ref a)])) _
    refine st27 _ ?_
    show Steps p.tables e below (T27.setTop (mkF m 78 #[.val (.ref a), .val (.int (2 : Int32)), .val (.int (2 : Int32))] [(.ref b27), (.ref a)])) _
    refine st29 _ ?_
    show Steps p.tables e below (T29.setTop (mkF m 81 #[.val (.ref a), .val (.int (2 : Int32)), .val (.int (2 : Int32))] [])) _
    refine XS.aloadN X29.here hx rfl (hb hby own_d4_81) rfl rfl ?_
    show Steps p.tables e below (T29.setTop (mkF m 82 #[.val (.ref a), .val (.int (2 : Int32)), .val (.int (2 : Int32))] [(.ref a)])) _
    refine XS.aloadN X29.here hx rfl (hb hby own_d4_82) rfl rfl ?_
    show Steps p.tables e below (T29.setTop (mkF m 83 #[.val (.ref a), .val (.int (2 : Int32)), .val (.int (2 : Int32))] [(.ref a), (.ref a)])) _
    refine st31 _ ?_
    show Steps p.tables e below (T31.setTop (mkF m 86 #[.val (.ref a), .val (.int (2 : Int32)), .val (.int (2 : Int32))] [(.ref p5), (.ref a)])) _
    refine XS.iloadN X31.here hx rfl (hb hby own_d4_86) rfl ?_
    show Steps p.tables e below (T31.setTop (mkF m 87 #[.val (.ref a), .val (.int (2 : Int32)), .val (.int (2 : Int32))] [(.int (2 : Int32)), (.ref p5), (.ref a)])) _
    refine st32 _ ?_
    show Steps p.tables e below (T32.setTop (mkF m 90 #[.val (.ref a), .val (.int (2 : Int32)), .val (.int (2 : Int32))] [(.ref b32), (.ref a)])) _
    refine st34 _ ?_
    show Steps p.tables e below (T34.setTop (mkF m 93 #[.val (.ref a), .val (.int (2 : Int32)), .val (.int (2 : Int32))] [])) _
    refine XS.aloadN X34.here hx rfl (hb hby own_d4_93) rfl rfl ?_
    show Steps p.tables e below (T34.setTop (mkF m 94 #[.val (.ref a), .val (.int (2 : Int32)), .val (.int (2 : Int32))] [(.ref a)])) _
    refine XS.aloadN X34.here hx rfl (hb hby own_d4_94) rfl rfl ?_
    show Steps p.tables e below (T34.setTop (mkF m 95 #[.val (.ref a), .val (.int (2 : Int32)), .val (.int (2 : Int32))] [(.ref a), (.ref a)])) _
    refine st36 _ ?_
    show Steps p.tables e below (T36.setTop (mkF m 98 #[.val (.ref a), .val (.int (2 : Int32)), .val (.int (2 : Int32))] [(.ref p6), (.ref a)])) _
    refine XS.iloadN X36.here hx rfl (hb hby own_d4_98) rfl ?_
    show Steps p.tables e below (T36.setTop (mkF m 99 #[.val (.ref a), .val (.int (2 : Int32)), .val (.int (2 : Int32))] [(.int (2 : Int32)), (.ref p6), (.ref a)])) _
    refine st37 _ ?_
    show Steps p.tables e below (T37.setTop (mkF m 102 #[.val (.ref a), .val (.int (2 : Int32)), .val (.int (2 : Int32))] [(.ref b37), (.ref a)])) _
    refine st39 _ ?_
    show Steps p.tables e below (T39.setTop (mkF m 105 #[.val (.ref a), .val (.int (2 : Int32)), .val (.int (2 : Int32))] [])) _
    refine XS.aloadN X39.here hx rfl (hb hby own_d4_105) rfl rfl ?_
    show Steps p.tables e below (T39.setTop (mkF m 106 #[.val (.ref a), .val (.int (2 : Int32)), .val (.int (2 : Int32))] [(.ref a)])) _
    refine XS.aloadN X39.here hx rfl (hb hby own_d4_106) rfl rfl ?_
    show Steps p.tables e below (T39.setTop (mkF m 107 #[.val (.ref a), .val (.int (2 : Int32)), .val (.int (2 : Int32))] [(.ref a), (.ref a)])) _
    refine st41 _ ?_
    show Steps p.tables e below (T41.setTop (mkF m 110 #[.val (.ref a), .val (.int (2 : Int32)), .val (.int (2 : Int32))] [(.ref p7), (.ref a)])) _
    refine XS.iloadN X41.here hx rfl (hb hby own_d4_110) rfl ?_
    show Steps p.tables e below (T41.setTop (mkF m 111 #[.val (.ref a), .val (.int (2 : Int32)), .val (.int (2 : Int32))] [(.int (2 : Int32)), (.ref p7), (.ref a)])) _
    refine st42 _ ?_
    show Steps p.tables e below (T42.setTop (mkF m 114 #[.val (.ref a), .val (.int (2 : Int32)), .val (.int (2 : Int32))] [(.ref b42), (.ref a)])) _
    refine st44 _ ?_
    show Steps p.tables e below (T44.setTop (mkF m 117 #[.val (.ref a), .val (.int (2 : Int32)), .val (.int (2 : Int32))] [])) _
    exact X44.returnOut hx Bd.returns (hb hby own_d4_117) hr
  · show own_Q_own_fit Z a p0 p1 p2 p3 p4 p5 p6 p7 k_0 k_1 k_2 k_3 k_4 k_5 k_6 k_7 h0 n0 _ T44.heap _
    rw [e44]
    exact ⟨b7, b12, b17, b22, b27, b32, b37, _, _, _, _, _, _, _, rfl, N44, KP, E, F_positives, F_negatives, F_passes, F_firstPositives, F_firstNegatives, F_sharedStateOf, F_ownStateOf, F_count, VB7, VB12, VB17, VB22, VB27, VB32, VB37, ne_b7_b12, ne_b7_b17, ne_b7_b22, ne_b7_b27, ne_b7_b32, ne_b7_b37, ne_b12_b17, ne_b12_b22, ne_b12_b27, ne_b12_b32, ne_b12_b37, ne_b17_b22, ne_b17_b27, ne_b17_b32, ne_b17_b37, ne_b22_b27, ne_b22_b32, ne_b22_b37, ne_b27_b32, ne_b27_b37, ne_b32_b37, sz_b7, sz_b12, sz_b17, sz_b22, sz_b27, sz_b32, sz_b37⟩
theorem own_d9_0 : decode prog_101_method_7_code 0 = .ok (.aload_n 0, 1) := by decide +kernel
theorem own_d9_1 : decode prog_101_method_7_code 1 = .ok (.getfield 7, 3) := by decide +kernel
theorem own_d9_4 : decode prog_101_method_7_code 4 = .ok (.aload_n 0, 1) := by decide +kernel
theorem own_d9_5 : decode prog_101_method_7_code 5 = .ok (.getfield 45, 3) := by decide +kernel
theorem own_d9_8 : decode prog_101_method_7_code 8 = .ok (.lconst 0, 1) := by decide +kernel
theorem own_d9_9 : decode prog_101_method_7_code 9 = .ok (.lastore, 1) := by decide +kernel
theorem own_d9_10 : decode prog_101_method_7_code 10 = .ok (.aload_n 0, 1) := by decide +kernel
theorem own_d9_11 : decode prog_101_method_7_code 11 = .ok (.getfield 13, 3) := by decide +kernel
theorem own_d9_14 : decode prog_101_method_7_code 14 = .ok (.aload_n 0, 1) := by decide +kernel
theorem own_d9_15 : decode prog_101_method_7_code 15 = .ok (.getfield 45, 3) := by decide +kernel
theorem own_d9_18 : decode prog_101_method_7_code 18 = .ok (.lconst 0, 1) := by decide +kernel
theorem own_d9_19 : decode prog_101_method_7_code 19 = .ok (.lastore, 1) := by decide +kernel
theorem own_d9_20 : decode prog_101_method_7_code 20 = .ok (.aload_n 0, 1) := by decide +kernel
theorem own_d9_21 : decode prog_101_method_7_code 21 = .ok (.getfield 16, 3) := by decide +kernel
theorem own_d9_24 : decode prog_101_method_7_code 24 = .ok (.aload_n 0, 1) := by decide +kernel
theorem own_d9_25 : decode prog_101_method_7_code 25 = .ok (.getfield 45, 3) := by decide +kernel
theorem own_d9_28 : decode prog_101_method_7_code 28 = .ok (.lconst 0, 1) := by decide +kernel
theorem own_d9_29 : decode prog_101_method_7_code 29 = .ok (.lastore, 1) := by decide +kernel
theorem own_d9_30 : decode prog_101_method_7_code 30 = .ok (.aload_n 0, 1) := by decide +kernel
theorem own_d9_31 : decode prog_101_method_7_code 31 = .ok (.getfield 19, 3) := by decide +kernel
theorem own_d9_34 : decode prog_101_method_7_code 34 = .ok (.aload_n 0, 1) := by decide +kernel
theorem own_d9_35 : decode prog_101_method_7_code 35 = .ok (.getfield 45, 3) := by decide +kernel
theorem own_d9_38 : decode prog_101_method_7_code 38 = .ok (.ldc2_w 85, 3) := by decide +kernel
theorem own_d9_41 : decode prog_101_method_7_code 41 = .ok (.lastore, 1) := by decide +kernel
theorem own_d9_42 : decode prog_101_method_7_code 42 = .ok (.aload_n 0, 1) := by decide +kernel
theorem own_d9_43 : decode prog_101_method_7_code 43 = .ok (.getfield 22, 3) := by decide +kernel
theorem own_d9_46 : decode prog_101_method_7_code 46 = .ok (.aload_n 0, 1) := by decide +kernel
theorem own_d9_47 : decode prog_101_method_7_code 47 = .ok (.getfield 45, 3) := by decide +kernel
theorem own_d9_50 : decode prog_101_method_7_code 50 = .ok (.ldc2_w 85, 3) := by decide +kernel
theorem own_d9_53 : decode prog_101_method_7_code 53 = .ok (.lastore, 1) := by decide +kernel
theorem own_d9_54 : decode prog_101_method_7_code 54 = .ok (.aload_n 0, 1) := by decide +kernel
theorem own_d9_55 : decode prog_101_method_7_code 55 = .ok (.getfield 25, 3) := by decide +kernel
theorem own_d9_58 : decode prog_101_method_7_code 58 = .ok (.aload_n 0, 1) := by decide +kernel
theorem own_d9_59 : decode prog_101_method_7_code 59 = .ok (.getfield 45, 3) := by decide +kernel
theorem own_d9_62 : decode prog_101_method_7_code 62 = .ok (.iload_n 1, 1) := by decide +kernel
theorem own_d9_63 : decode prog_101_method_7_code 63 = .ok (.iastore, 1) := by decide +kernel
theorem own_d9_64 : decode prog_101_method_7_code 64 = .ok (.aload_n 0, 1) := by decide +kernel
theorem own_d9_65 : decode prog_101_method_7_code 65 = .ok (.getfield 29, 3) := by decide +kernel
theorem own_d9_68 : decode prog_101_method_7_code 68 = .ok (.aload_n 0, 1) := by decide +kernel
theorem own_d9_69 : decode prog_101_method_7_code 69 = .ok (.getfield 45, 3) := by decide +kernel
theorem own_d9_72 : decode prog_101_method_7_code 72 = .ok (.iload_n 2, 1) := by decide +kernel
theorem own_d9_73 : decode prog_101_method_7_code 73 = .ok (.iastore, 1) := by decide +kernel
theorem own_d9_74 : decode prog_101_method_7_code 74 = .ok (.aload_n 0, 1) := by decide +kernel
theorem own_d9_75 : decode prog_101_method_7_code 75 = .ok (.dup, 1) := by decide +kernel
theorem own_d9_76 : decode prog_101_method_7_code 76 = .ok (.getfield 45, 3) := by decide +kernel
theorem own_d9_79 : decode prog_101_method_7_code 79 = .ok (.dup_x1, 1) := by decide +kernel
theorem own_d9_80 : decode prog_101_method_7_code 80 = .ok (.iconst 1, 1) := by decide +kernel
theorem own_d9_81 : decode prog_101_method_7_code 81 = .ok (.iadd, 1) := by decide +kernel
theorem own_d9_82 : decode prog_101_method_7_code 82 = .ok (.putfield 45, 3) := by decide +kernel
theorem own_d9_85 : decode prog_101_method_7_code 85 = .ok (.ireturn, 1) := by decide +kernel
theorem own_ef9 (m : MethodId) (x0 : Addr) (x1 : Int32) (x2 : Int32) : entryFrame m #[(.ref x0), (.int x1), (.int x2)] 3 = mkF m 0 #[.val (.ref x0), .val (.int x1), .val (.int x2)] [] := by first | (simp [entryFrame, mkF, argsToLocals, Value.category]; done) | rfl
def own_Q_own_add0 (Z : State) (a : Addr) (s1 : Int32) (o1 : Int32) (p0 : Addr) (p1 : Addr) (p2 : Addr) (p3 : Addr) (p4 : Addr) (p5 : Addr) (p6 : Addr) (k_0 : ClassId) (k_1 : ClassId) (k_2 : ClassId) (k_3 : ClassId) (k_4 : ClassId) (k_5 : ClassId) (k_6 : ClassId) (x0_0 : Int64) (x0_1 : Int64) (x1_0 : Int64) (x1_1 : Int64) (x2_0 : Int64) (x2_1 : Int64) (x3_0 : Int64) (x3_1 : Int64) (x4_0 : Int64) (x4_1 : Int64) (x5_0 : Int32) (x5_1 : Int32) (x6_0 : Int32) (x6_1 : Int32) (h0 : Heap) (n0 : Nat) (v : Option Value) (h : Heap) (L : List Loc) : Prop := v = some (.int (0 : Int32)) ∧ Fr n0 L ∧ Keep h0 h [a, p0, p1, p2, p3, p4, p5, p6] ∧ Exa Z h a "com/example/synclattice/synclattice/sync/StatePairs" ∧ Fld Z h a "com/example/synclattice/synclattice/sync/StatePairs" "positives" "[J" (.ref p0) ∧ Fld Z h a "com/example/synclattice/synclattice/sync/StatePairs" "negatives" "[J" (.ref p1) ∧ Fld Z h a "com/example/synclattice/synclattice/sync/StatePairs" "passes" "[J" (.ref p2) ∧ Fld Z h a "com/example/synclattice/synclattice/sync/StatePairs" "firstPositives" "[J" (.ref p3) ∧ Fld Z h a "com/example/synclattice/synclattice/sync/StatePairs" "firstNegatives" "[J" (.ref p4) ∧ Fld Z h a "com/example/synclattice/synclattice/sync/StatePairs" "sharedStateOf" "[I" (.ref p5) ∧ Fld Z h a "com/example/synclattice/synclattice/sync/StatePairs" "ownStateOf" "[I" (.ref p6) ∧ Fld Z h a "com/example/synclattice/synclattice/sync/StatePairs" "count" "I" (.int (1 : Int32)) ∧ Arv Z h p0 k_0 .long (2 : Int32) [(.long (0 : Int64)), (.long x0_1)] (.long (0 : Int64)) ∧ Arv Z h p1 k_1 .long (2 : Int32) [(.long (0 : Int64)), (.long x1_1)] (.long (0 : Int64)) ∧ Arv Z h p2 k_2 .long (2 : Int32) [(.long (0 : Int64)), (.long x2_1)] (.long (0 : Int64)) ∧ Arv Z h p3 k_3 .long (2 : Int32) [(.long (9223372036854775807 : Int64)), (.long x3_1)] (.long (0 : Int64)) ∧ Arv Z h p4 k_4 .long (2 : Int32) [(.long (9223372036854775807 : Int64)), (.long x4_1)] (.long (0 : Int64)) ∧ Arv Z h p5 k_5 .int (2 : Int32) [(.int s1), (.int x5_1)] (.int (0 : Int32)) ∧ Arv Z h p6 k_6 .int (2 : Int32) [(.int o1), (.int x6_1)] (.int (0 : Int32))
set_option maxRecDepth 65536 in
set_option maxHeartbeats 40000000 in
theorem own_add0 (l : Launch) (Z : State) (a0 : Array Value) (hw : ∀ d ∈ tables_1, d.before a0 Z = true) (ws : List Jvm.Cond) (a : Addr) (s1 : Int32) (o1 : Int32) (p0 : Addr) (p1 : Addr) (p2 : Addr) (p3 : Addr) (p4 : Addr) (p5 : Addr) (p6 : Addr) (k_0 : ClassId) (k_1 : ClassId) (k_2 : ClassId) (k_3 : ClassId) (k_4 : ClassId) (k_5 : ClassId) (k_6 : ClassId) (x0_0 : Int64) (x0_1 : Int64) (x1_0 : Int64) (x1_1 : Int64) (x2_0 : Int64) (x2_1 : Int64) (x3_0 : Int64) (x3_1 : Int64) (x4_0 : Int64) (x4_1 : Int64) (x5_0 : Int32) (x5_1 : Int32) (x6_0 : Int32) (x6_1 : Int32) (h0 : Heap) (n0 : Nat) (Z0 : n0 ≤ h0.size) (E : Exa Z h0 a "com/example/synclattice/synclattice/sync/StatePairs") (F_positives : Fld Z h0 a "com/example/synclattice/synclattice/sync/StatePairs" "positives" "[J" (.ref p0)) (F_negatives : Fld Z h0 a "com/example/synclattice/synclattice/sync/StatePairs" "negatives" "[J" (.ref p1)) (F_passes : Fld Z h0 a "com/example/synclattice/synclattice/sync/StatePairs" "passes" "[J" (.ref p2)) (F_firstPositives : Fld Z h0 a "com/example/synclattice/synclattice/sync/StatePairs" "firstPositives" "[J" (.ref p3)) (F_firstNegatives : Fld Z h0 a "com/example/synclattice/synclattice/sync/StatePairs" "firstNegatives" "[J" (.ref p4)) (F_sharedStateOf : Fld Z h0 a "com/example/synclattice/synclattice/sync/StatePairs" "sharedStateOf" "[I" (.ref p5)) (F_ownStateOf : Fld Z h0 a "com/example/synclattice/synclattice/sync/StatePairs" "ownStateOf" "[I" (.ref p6)) (F_count : Fld Z h0 a "com/example/synclattice/synclattice/sync/StatePairs" "count" "I" (.int (0 : Int32))) (V0 : Arv Z h0 p0 k_0 .long (2 : Int32) [(.long x0_0), (.long x0_1)] (.long (0 : Int64))) (V1 : Arv Z h0 p1 k_1 .long (2 : Int32) [(.long x1_0), (.long x1_1)] (.long (0 : Int64))) (V2 : Arv Z h0 p2 k_2 .long (2 : Int32) [(.long x2_0), (.long x2_1)] (.long (0 : Int64))) (V3 : Arv Z h0 p3 k_3 .long (2 : Int32) [(.long x3_0), (.long x3_1)] (.long (0 : Int64))) (V4 : Arv Z h0 p4 k_4 .long (2 : Int32) [(.long x4_0), (.long x4_1)] (.long (0 : Int64))) (V5 : Arv Z h0 p5 k_5 .int (2 : Int32) [(.int x5_0), (.int x5_1)] (.int (0 : Int32))) (V6 : Arv Z h0 p6 k_6 .int (2 : Int32) [(.int x6_0), (.int x6_1)] (.int (0 : Int32))) (g : n0 ≤ a) (g0 : n0 ≤ p0) (g1 : n0 ≤ p1) (g2 : n0 ≤ p2) (g3 : n0 ≤ p3) (g4 : n0 ≤ p4) (g5 : n0 ≤ p5) (g6 : n0 ≤ p6) (nn_p0_p1 : p0 ≠ p1) (nn_p0_p2 : p0 ≠ p2) (nn_p0_p3 : p0 ≠ p3) (nn_p0_p4 : p0 ≠ p4) (nn_p0_p5 : p0 ≠ p5) (nn_p0_p6 : p0 ≠ p6) (nn_p1_p2 : p1 ≠ p2) (nn_p1_p3 : p1 ≠ p3) (nn_p1_p4 : p1 ≠ p4) (nn_p1_p5 : p1 ≠ p5) (nn_p1_p6 : p1 ≠ p6) (nn_p2_p3 : p2 ≠ p3) (nn_p2_p4 : p2 ≠ p4) (nn_p2_p5 : p2 ≠ p5) (nn_p2_p6 : p2 ≠ p6) (nn_p3_p4 : p3 ≠ p4) (nn_p3_p5 : p3 ≠ p5) (nn_p3_p6 : p3 ≠ p6) (nn_p4_p5 : p4 ≠ p5) (nn_p4_p6 : p4 ≠ p6) (nn_p5_p6 : p5 ≠ p6) :
    MetFree l (⟨"com/example/synclattice/synclattice/sync/StatePairs", "add", "(II)I"⟩ : MethodName) (head1 (Jvm.Cond.code (⟨"com/example/synclattice/synclattice/sync/StatePairs", "add", "(II)I"⟩ : MethodName) prog_101_method_7_code 3 (some .int) :: ws) ({ frames := 0, cells := 0, slots := 0, locals := 0 } : Room)) (fun as_ U => as_ = #[(.ref a), (.int s1), (.int o1)] ∧ Z.Warmed39 U.vm ∧ U.heap = h0) (fun _ _ _ _ _ => True) (fun _ U o U' => ∃ v L, o = .returned v ∧ own_Q_own_add0 Z a s1 o1 p0 p1 p2 p3 p4 p5 p6 k_0 k_1 k_2 k_3 k_4 k_5 k_6 x0_0 x0_1 x1_0 x1_1 x2_0 x2_1 x3_0 x3_1 x4_0 x4_1 x5_0 x5_1 x6_0 x6_1 h0 n0 v U'.heap L ∧ FrameEnd U o U' L ({ frames := 0, cells := 0, slots := 0, locals := 0 } : Room).cells ({ frames := 0, cells := 0, slots := 0, locals := 0 } : Room).slots) := by
  refine MetFree.of_bodySF (plainFor_of_name own_pn0) hisR ?_
  intro p e s m args below meth c s₁ Bd hml0 hP hK
  obtain ⟨rfl, hZ, hh⟩ := hP
  have hx := Bd.exec
  have hby := Bd.bytes
  have hml : c.maxLocals = 3 := hml0
  have hown : s.vm.findClass "com/example/synclattice/synclattice/sync/StatePairs" = some m.cls := findClass_of_methodNamed Bd.named
  have hnm := (name_of_methodNamed Bd.named Bd.method).1
  have X0 : Stand p l e ({ frames := 0, cells := 0, slots := 0, locals := 0 } : Room) s m #[(.ref a), (.int s1), (.int o1)] below meth c s₁ [] 0 0 := Stand.of_body Bd
  have e0 : s₁.heap = h0 := by rw [← hh, Bd.state]; rfl
  have N0 := Fr.nil n0
  have pre0 : ∀ t, Steps p.tables e below (s₁.setTop (mkF m 0 #[.val (.ref a), .val (.int s1), .val (.int o1)] [])) t → Steps p.tables e below (s₁.setTop (entryFrame m #[(.ref a), (.int s1), (.int o1)] 3)) t := fun t k => castTop (own_ef9 m a s1 o1) k
  have KP := Keep.refl h0 ([a, p0, p1, p2, p3, p4, p5, p6] : List Addr)
  obtain ⟨T1, X1, e1, st1⟩ := getF X0 hx hZ hown (host := "") (Or.inl (hw _ (List.mem_of_getElem? (i := 10) rfl))) Via.refl e0 F_positives (g := (mkF m 1 #[.val (.ref a), .val (.int s1), .val (.int o1)] [(.ref a)])) rfl rfl (hb hby own_d9_1)
  obtain ⟨T2, X2, e2, st2⟩ := getF X1 hx hZ hown (host := "") (Or.inl (hw _ (List.mem_of_getElem? (i := 38) rfl))) Via.refl e1 F_count (g := (mkF m 5 #[.val (.ref a), .val (.int s1), .val (.int o1)] [(.ref a), (.ref p0)])) rfl rfl (hb hby own_d9_5)
  obtain ⟨cl3, Ar3, q3, S3, M3, H3, G3⟩ := id V0
  have hin3 : ¬ ((0 : Int32) < 0 ∨ cl3.slots.size ≤ ((0 : Int32)).toNatClampNeg) := inb_of S3 ⟨by decide, by decide⟩
  obtain ⟨T4, h4, X4, e4, W4, st4⟩ := stJ X2 hx hZ e2 Ar3 (j := (0 : Int32)) hin3 (g := (mkF m 9 #[.val (.ref a), .val (.int s1), .val (.int o1)] [(.long (0 : Int64)), (.int (0 : Int32)), (.ref p0)])) rfl rfl (hb hby own_d9_9)
  have ne_a_p0 : a ≠ p0 := Exa.neArv E V0 (hw _ (List.mem_of_getElem? (i := 1) rfl))
  have E := E.wr W4
  have F_positives := F_positives.other W4 (Or.inl ne_a_p0)
  have F_negatives := F_negatives.other W4 (Or.inl ne_a_p0)
  have V1 := V1.other W4 (Ne.symm nn_p0_p1)
  have F_passes := F_passes.other W4 (Or.inl ne_a_p0)
  have V2 := V2.other W4 (Ne.symm nn_p0_p2)
  have F_firstPositives := F_firstPositives.other W4 (Or.inl ne_a_p0)
  have V3 := V3.other W4 (Ne.symm nn_p0_p3)
  have F_firstNegatives := F_firstNegatives.other W4 (Or.inl ne_a_p0)
  have V4 := V4.other W4 (Ne.symm nn_p0_p4)
  have F_sharedStateOf := F_sharedStateOf.other W4 (Or.inl ne_a_p0)
  have V5 := V5.other W4 (Ne.symm nn_p0_p5)
  have F_ownStateOf := F_ownStateOf.other W4 (Or.inl ne_a_p0)
  have V6 := V6.other W4 (Ne.symm nn_p0_p6)
  have F_count := F_count.other W4 (Or.inl ne_a_p0)
  have Z5 : n0 ≤ h4.size := Nat.le_trans Z0 (Keep.of_wr W4).1
  have KP := KP.wr W4 (Or.inl (List.mem_of_getElem? (i := 1) rfl))
  have V0 := Arv.set Ar3 q3 S3 M3 H3 G3 rfl W4 0 rfl (Nat.le_of_ble_eq_true rfl)
  have V0 : Arv Z h4 p0 k_0 .long (2 : Int32) [(.long (0 : Int64)), (.long x0_1)] (.long (0 : Int64)) := V0
  have N4 := Fr.snoc X4 N0 g0
  obtain ⟨T6, X6, e6, st6⟩ := getF X4 hx hZ hown (host := "") (Or.inl (hw _ (List.mem_of_getElem? (i := 12) rfl))) Via.refl e4 F_negatives (g := (mkF m 11 #[.val (.ref a), .val (.int s1), .val (.int o1)] [(.ref a)])) rfl rfl (hb hby own_d9_11)
  obtain ⟨T7, X7, e7, st7⟩ := getF X6 hx hZ hown (host := "") (Or.inl (hw _ (List.mem_of_getElem? (i := 38) rfl))) Via.refl e6 F_count (g := (mkF m 15 #[.val (.ref a), .val (.int s1), .val (.int o1)] [(.ref a), (.ref p1)])) rfl rfl (hb hby own_d9_15)
  obtain ⟨cl8, Ar8, q8, S8, M8, H8, G8⟩ := id V1
  have hin8 : ¬ ((0 : Int32) < 0 ∨ cl8.slots.size ≤ ((0 : Int32)).toNatClampNeg) := inb_of S8 ⟨by decide, by decide⟩
  obtain ⟨T9, h9, X9, e9, W9, st9⟩ := stJ X7 hx hZ e7 Ar8 (j := (0 : Int32)) hin8 (g := (mkF m 19 #[.val (.ref a), .val (.int s1), .val (.int o1)] [(.long (0 : Int64)), (.int (0 : Int32)), (.ref p1)])) rfl rfl (hb hby own_d9_19)
  have ne_a_p1 : a ≠ p1 := Exa.neArv E V1 (hw _ (List.mem_of_getElem? (i := 1) rfl))
  have E := E.wr W9
  have F_positives := F_positives.other W9 (Or.inl ne_a_p1)
  have V0 := V0.other W9 nn_p0_p1
  have F_negatives := F_negatives.other W9 (Or.inl ne_a_p1)
  have F_passes := F_passes.other W9 (Or.inl ne_a_p1)
  have V2 := V2.other W9 (Ne.symm nn_p1_p2)
  have F_firstPositives := F_firstPositives.other W9 (Or.inl ne_a_p1)
  have V3 := V3.other W9 (Ne.symm nn_p1_p3)
  have F_firstNegatives := F_firstNegatives.other W9 (Or.inl ne_a_p1)
  have V4 := V4.other W9 (Ne.symm nn_p1_p4)
  have F_sharedStateOf := F_sharedStateOf.other W9 (Or.inl ne_a_p1)
  have V5 := V5.other W9 (Ne.symm nn_p1_p5)
  have F_ownStateOf := F_ownStateOf.other W9 (Or.inl ne_a_p1)
  have V6 := V6.other W9 (Ne.symm nn_p1_p6)
  have F_count := F_count.other W9 (Or.inl ne_a_p1)
  have Z10 : n0 ≤ h9.size := Nat.le_trans Z5 (Keep.of_wr W9).1
  have KP := KP.wr W9 (Or.inl (List.mem_of_getElem? (i := 2) rfl))
  have V1 := Arv.set Ar8 q8 S8 M8 H8 G8 rfl W9 0 rfl (Nat.le_of_ble_eq_true rfl)
  have V1 : Arv Z h9 p1 k_1 .long (2 : Int32) [(.long (0 : Int64)), (.long x1_1)] (.long (0 : Int64)) := V1
  have N9 := Fr.snoc X9 N4 g1
  obtain ⟨T11, X11, e11, st11⟩ := getF X9 hx hZ hown (host := "") (Or.inl (hw _ (List.mem_of_getElem? (i := 14) rfl))) Via.refl e9 F_passes (g := (mkF m 21 #[.val (.ref a), .val (.int s1), .val (.int o1)] [(.ref a)])) rfl rfl (hb hby own_d9_21)
  obtain ⟨T12, X12, e12, st12⟩ := getF X11 hx hZ hown (host := "") (Or.inl (hw _ (List.mem_of_getElem? (i := 38) rfl))) Via.refl e11 F_count (g := (mkF m 25 #[.val (.ref a), .val (.int s1), .val (.int o1)] [(.ref a), (.ref p2)])) rfl rfl (hb hby own_d9_25)
  obtain ⟨cl13, Ar13, q13, S13, M13, H13, G13⟩ := id V2
  have hin13 : ¬ ((0 : Int32) < 0 ∨ cl13.slots.size ≤ ((0 : Int32)).toNatClampNeg) := inb_of S13 ⟨by decide, by decide⟩
  obtain ⟨T14, h14, X14, e14, W14, st14⟩ := stJ X12 hx hZ e12 Ar13 (j := (0 : Int32)) hin13 (g := (mkF m 29 #[.val (.ref a), .val (.int s1), .val (.int o1)] [(.long (0 : Int64)), (.int (0 : Int32)), (.ref p2)])) rfl rfl (hb hby own_d9_29)
  have ne_a_p2 : a ≠ p2 := Exa.neArv E V2 (hw _ (List.mem_of_getElem? (i := 1) rfl))
  have E := E.wr W14
  have F_positives := F_positives.other W14 (Or.inl ne_a_p2)
  have V0 := V0.other W14 nn_p0_p2
  have F_negatives := F_negatives.other W14 (Or.inl ne_a_p2)
  have V1 := V1.other W14 nn_p1_p2
  have F_passes := F_passes.other W14 (Or.inl ne_a_p2)
  have F_firstPositives := F_firstPositives.other W14 (Or.inl ne_a_p2)
  have V3 := V3.other W14 (Ne.symm nn_p2_p3)
  have F_firstNegatives := F_firstNegatives.other W14 (Or.inl ne_a_p2)
  have V4 := V4.other W14 (Ne.symm nn_p2_p4)
  have F_sharedStateOf := F_sharedStateOf.other W14 (Or.inl ne_a_p2)
  have V5 := V5.other W14 (Ne.symm nn_p2_p5)
  have F_ownStateOf := F_ownStateOf.other W14 (Or.inl ne_a_p2)
  have V6 := V6.other W14 (Ne.symm nn_p2_p6)
  have F_count := F_count.other W14 (Or.inl ne_a_p2)
  have Z15 : n0 ≤ h14.size := Nat.le_trans Z10 (Keep.of_wr W14).1
  have KP := KP.wr W14 (Or.inl (List.mem_of_getElem? (i := 3) rfl))
  have V2 := Arv.set Ar13 q13 S13 M13 H13 G13 rfl W14 0 rfl (Nat.le_of_ble_eq_true rfl)
  have V2 : Arv Z h14 p2 k_2 .long (2 : Int32) [(.long (0 : Int64)), (.long x2_1)] (.long (0 : Int64)) := V2
  have N14 := Fr.snoc X14 N9 g2
  obtain ⟨T16, X16, e16, st16⟩ := getF X14 hx hZ hown (host := "") (Or.inl (hw _ (List.mem_of_getElem? (i := 16) rfl))) Via.refl e14 F_firstPositives (g := (mkF m 31 #[.val (.ref a), .val (.int s1), .val (.int o1)] [(.ref a)])) rfl rfl (hb hby own_d9_31)
  obtain ⟨T17, X17, e17, st17⟩ := getF X16 hx hZ hown (host := "") (Or.inl (hw _ (List.mem_of_getElem? (i := 38) rfl))) Via.refl e16 F_count (g := (mkF m 35 #[.val (.ref a), .val (.int s1), .val (.int o1)] [(.ref a), (.ref p3)])) rfl rfl (hb hby own_d9_35)
  obtain ⟨cl18, Ar18, q18, S18, M18, H18, G18⟩ := id V3
  have hin18 : ¬ ((0 : Int32) < 0 ∨ cl18.slots.size ≤ ((0 : Int32)).toNatClampNeg) := inb_of S18 ⟨by decide, by decide⟩
  obtain ⟨T19, h19, X19, e19, W19, st19⟩ := stJ X17 hx hZ e17 Ar18 (j := (0 : Int32)) hin18 (g := (mkF m 41 #[.val (.ref a), .val (.int s1), .val (.int o1)] [(.long (9223372036854775807 : Int64)), (.int (0 : Int32)), (.ref p3)])) rfl rfl (hb hby own_d9_41)
  have ne_a_p3 : a ≠ p3 := Exa.neArv E V3 (hw _ (List.mem_of_getElem? (i := 1) rfl))
  have E := E.wr W19
  have F_positives := F_positives.other W19 (Or.inl ne_a_p3)
  have V0 := V0.other W19 nn_p0_p3
  have F_negatives := F_negatives.other W19 (Or.inl ne_a_p3)
  have V1 := V1.other W19 nn_p1_p3
  have F_passes := F_passes.other W19 (Or.inl ne_a_p3)
  have V2 := V2.other W19 nn_p2_p3
  have F_firstPositives := F_firstPositives.other W19 (Or.inl ne_a_p3)
  have F_firstNegatives := F_firstNegatives.other W19 (Or.inl ne_a_p3)
  have V4 := V4.other W19 (Ne.symm nn_p3_p4)
  have F_sharedStateOf := F_sharedStateOf.other W19 (Or.inl ne_a_p3)
  have V5 := V5.other W19 (Ne.symm nn_p3_p5)
  have F_ownStateOf := F_ownStateOf.other W19 (Or.inl ne_a_p3)
  have V6 := V6.other W19 (Ne.symm nn_p3_p6)
  have F_count := F_count.other W19 (Or.inl ne_a_p3)
  have Z20 : n0 ≤ h19.size := Nat.le_trans Z15 (Keep.of_wr W19).1
  have KP := KP.wr W19 (Or.inl (List.mem_of_getElem? (i := 4) rfl))
  have V3 := Arv.set Ar18 q18 S18 M18 H18 G18 rfl W19 0 rfl (Nat.le_of_ble_eq_true rfl)
  have V3 : Arv Z h19 p3 k_3 .long (2 : Int32) [(.long (9223372036854775807 : Int64)), (.long x3_1)] (.long (0 : Int64)) := V3
  have N19 := Fr.snoc X19 N14 g3
  obtain ⟨T21, X21, e21, st21⟩ := getF X19 hx hZ hown (host := "") (Or.inl (hw _ (List.mem_of_getElem? (i := 18) rfl))) Via.refl e19 F_firstNegatives (g := (mkF m 43 #[.val (.ref a), .val (.int s1), .val (.int o1)] [(.ref a)])) rfl rfl (hb hby own_d9_43)
  obtain ⟨T22, X22, e22, st22⟩ := getF X21 hx hZ hown (host := "") (Or.inl (hw _ (List.mem_of_getElem? (i := 38) rfl))) Via.refl e21 F_count (g := (mkF m 47 #[.val (.ref a), .val (.int s1), .val (.int o1)] [(.ref a), (.ref p4)])) rfl rfl (hb hby own_d9_47)
  obtain ⟨cl23, Ar23, q23, S23, M23, H23, G23⟩ := id V4
  have hin23 : ¬ ((0 : Int32) < 0 ∨ cl23.slots.size ≤ ((0 : Int32)).toNatClampNeg) := inb_of S23 ⟨by decide, by decide⟩
  obtain ⟨T24, h24, X24, e24, W24, st24⟩ := stJ X22 hx hZ e22 Ar23 (j := (0 : Int32)) hin23 (g := (mkF m 53 #[.val (.ref a), .val (.int s1), .val (.int o1)] [(.long (9223372036854775807 : Int64)), (.int (0 : Int32)), (.ref p4)])) rfl rfl (hb hby own_d9_53)
  have ne_a_p4 : a ≠ p4 := Exa.neArv E V4 (hw _ (List.mem_of_getElem? (i := 1) rfl))
  have E := E.wr W24
  have F_positives := F_positives.other W24 (Or.inl ne_a_p4)
  have V0 := V0.other W24 nn_p0_p4
  have F_negatives := F_negatives.other W24 (Or.inl ne_a_p4)
  have V1 := V1.other W24 nn_p1_p4
  have F_passes := F_passes.other W24 (Or.inl ne_a_p4)
  have V2 := V2.other W24 nn_p2_p4
  have F_firstPositives := F_firstPositives.other W24 (Or.inl ne_a_p4)
  have V3 := V3.other W24 nn_p3_p4
  have F_firstNegatives := F_firstNegatives.other W24 (Or.inl ne_a_p4)
  have F_sharedStateOf := F_sharedStateOf.other W24 (Or.inl ne_a_p4)
  have V5 := V5.other W24 (Ne.symm nn_p4_p5)
  have F_ownStateOf := F_ownStateOf.other W24 (Or.inl ne_a_p4)
  have V6 := V6.other W24 (Ne.symm nn_p4_p6)
  have F_count := F_count.other W24 (Or.inl ne_a_p4)
  have Z25 : n0 ≤ h24.size := Nat.le_trans Z20 (Keep.of_wr W24).1
  have KP := KP.wr W24 (Or.inl (List.mem_of_getElem? (i := 5) rfl))
  have V4 := Arv.set Ar23 q23 S23 M23 H23 G23 rfl W24 0 rfl (Nat.le_of_ble_eq_true rfl)
  have V4 : Arv Z h24 p4 k_4 .long (2 : Int32) [(.long (9223372036854775807 : Int64)), (.long x4_1)] (.long (0 : Int64)) := V4
  have N24 := Fr.snoc X24 N19 g4
  obtain ⟨T26, X26, e26, st26⟩ := getF X24 hx hZ hown (host := "") (Or.inl (hw _ (List.mem_of_getElem? (i := 21) rfl))) Via.refl e24 F_sharedStateOf (g := (mkF m 55 #[.val (.ref a), .val (.int s1), .val (.int o1)] [(.ref a)])) rfl rfl (hb hby own_d9_55)
  obtain ⟨T27, X27, e27, st27⟩ := getF X26 hx hZ hown (host := "") (Or.inl (hw _ (List.mem_of_getElem? (i := 38) rfl))) Via.refl e26 F_count (g := (mkF m 59 #[.val (.ref a), .val (.int s1), .val (.int o1)] [(.ref a), (.ref p5)])) rfl rfl (hb hby own_d9_59)
  obtain ⟨cl28, Ar28, q28, S28, M28, H28, G28⟩ := id V5
  have hin28 : ¬ ((0 : Int32) < 0 ∨ cl28.slots.size ≤ ((0 : Int32)).toNatClampNeg) := inb_of S28 ⟨by decide, by decide⟩
  obtain ⟨T29, h29, X29, e29, W29, st29⟩ := stI X27 hx hZ e27 Ar28 (j := (0 : Int32)) hin28 (g := (mkF m 63 #[.val (.ref a), .val (.int s1), .val (.int o1)] [(.int s1), (.int (0 : Int32)), (.ref p5)])) rfl rfl (hb hby own_d9_63)
  have ne_a_p5 : a ≠ p5 := Exa.neArv E V5 (hw _ (List.mem_of_getElem? (i := 1) rfl))
  have E := E.wr W29
  have F_positives := F_positives.other W29 (Or.inl ne_a_p5)
  have V0 := V0.other W29 nn_p0_p5
  have F_negatives := F_negatives.other W29 (Or.inl ne_a_p5)
  have V1 := V1.other W29 nn_p1_p5
  have F_passes := F_passes.other W29 (Or.inl ne_a_p5)
  have V2 := V2.other W29 nn_p2_p5
  have F_firstPositives := F_firstPositives.other W29 (Or.inl ne_a_p5)
  have V3 := V3.other W29 nn_p3_p5
  have F_firstNegatives := F_firstNegatives.other W29 (Or.inl ne_a_p5)
  have V4 := V4.other W29 nn_p4_p5
  have F_sharedStateOf := F_sharedStateOf.other W29 (Or.inl ne_a_p5)
  have F_ownStateOf := F_ownStateOf.other W29 (Or.inl ne_a_p5)
  have V6 := V6.other W29 (Ne.symm nn_p5_p6)
  have F_count := F_count.other W29 (Or.inl ne_a_p5)
  have Z30 : n0 ≤ h29.size := Nat.le_trans Z25 (Keep.of_wr W29).1
  have KP := KP.wr W29 (Or.inl (List.mem_of_getElem? (i := 6) rfl))
  have V5 := Arv.set Ar28 q28 S28 M28 H28 G28 rfl W29 0 rfl (Nat.le_of_ble_eq_true rfl)
  have V5 : Arv Z h29 p5 k_5 .int (2 : Int32) [(.int s1), (.int x5_1)] (.int (0 : Int32)) := V5
  have N29 := Fr.snoc X29 N24 g5
  obtain ⟨T31, X31, e31, st31⟩ := getF X29 hx hZ hown (host := "") (Or.inl (hw _ (List.mem_of_getElem? (i := 23) rfl))) Via.refl e29 F_ownStateOf (g := (mkF m 65 #[.val (.ref a), .val (.int s1), .val (.int o1)] [(.ref a)])) rfl rfl (hb hby own_d9_65)
  obtain ⟨T32, X32, e32, st32⟩ := getF X31 hx hZ hown (host := "") (Or.inl (hw _ (List.mem_of_getElem? (i := 38) rfl))) Via.refl e31 F_count (g := (mkF m 69 #[.val (.ref a), .val (.int s1), .val (.int o1)] [(.ref a), (.ref p6)])) rfl rfl (hb hby own_d9_69)
  obtain ⟨cl33, Ar33, q33, S33, M33, H33, G33⟩ := id V6
  have hin33 : ¬ ((0 : Int32) < 0 ∨ cl33.slots.size ≤ ((0 : Int32)).toNatClampNeg) := inb_of S33 ⟨by decide, by decide⟩
  obtain ⟨T34, h34, X34, e34, W34, st34⟩ := stI X32 hx hZ e32 Ar33 (j := (0 : Int32)) hin33 (g := (mkF m 73 #[.val (.ref a), .val (.int s1), .val (.int o1)] [(.int o1), (.int (0 : Int32)), (.ref p6)])) rfl rfl (hb hby own_d9_73)
  have ne_a_p6 : a ≠ p6 := Exa.neArv E V6 (hw _ (List.mem_of_getElem? (i := 1) rfl))
  have E := E.wr W34
  have F_positives := F_positives.other W34 (Or.inl ne_a_p6)
  have V0 := V0.other W34 nn_p0_p6
  have F_negatives := F_negatives.other W34 (Or.inl ne_a_p6)
  have V1 := V1.other W34 nn_p1_p6
  have F_passes := F_passes.other W34 (Or.inl ne_a_p6)
  have V2 := V2.other W34 nn_p2_p6
  have F_firstPositives := F_firstPositives.other W34 (Or.inl ne_a_p6)
  have V3 := V3.other W34 nn_p3_p6
  have F_firstNegatives := F_firstNegatives.other W34 (Or.inl ne_a_p6)
  have V4 := V4.other W34 nn_p4_p6
  have F_sharedStateOf := F_sharedStateOf.other W34 (Or.inl ne_a_p6)
  have V5 := V5.other W34 nn_p5_p6
  have F_ownStateOf := F_ownStateOf.other W34 (Or.inl ne_a_p6)
  have F_count := F_count.other W34 (Or.inl ne_a_p6)
  have Z35 : n0 ≤ h34.size := Nat.le_trans Z30 (Keep.of_wr W34).1
  have KP := KP.wr W34 (Or.inl (List.mem_of_getElem? (i := 7) rfl))
  have V6 := Arv.set Ar33 q33 S33 M33 H33 G33 rfl W34 0 rfl (Nat.le_of_ble_eq_true rfl)
  have V6 : Arv Z h34 p6 k_6 .int (2 : Int32) [(.int o1), (.int x6_1)] (.int (0 : Int32)) := V6
  have N34 := Fr.snoc X34 N29 g6
  obtain ⟨T36, X36, e36, st36⟩ := getF X34 hx hZ hown (host := "") (Or.inl (hw _ (List.mem_of_getElem? (i := 38) rfl))) Via.refl e34 F_count (g := (mkF m 76 #[.val (.ref a), .val (.int s1), .val (.int o1)] [(.ref a), (.ref a)])) rfl rfl (hb hby own_d9_76)
  obtain ⟨T37, h37, X37, e37, W37, st37⟩ := putF X36 hx hZ hown (host := "") (Or.inl (hw _ (List.mem_of_getElem? (i := 38) rfl))) Via.refl e36 F_count E (Or.inl (hw _ (List.mem_of_getElem? (i := 39) rfl))) (hw _ (List.mem_of_getElem? (i := 1) rfl)) (ty := .int) (by decide) rfl rfl (g := (mkF m 82 #[.val (.ref a), .val (.int s1), .val (.int o1)] [(.int (1 : Int32)), (.ref a), (.int (0 : Int32))])) rfl rfl (hb hby own_d9_82)
  have E := E.wr W37
  have F_positives := F_positives.other W37 (Or.inr (slot_ne (Or.inl (hw _ (List.mem_of_getElem? (i := 11) rfl))) (Or.inl (hw _ (List.mem_of_getElem? (i := 39) rfl))) (by decide) (t := (.array .long)) (t' := .int) (by decide) (by decide)))
  have V0 := V0.other W37 (Ne.symm ne_a_p0)
  have F_negatives := F_negatives.other W37 (Or.inr (slot_ne (Or.inl (hw _ (List.mem_of_getElem? (i := 13) rfl))) (Or.inl (hw _ (List.mem_of_getElem? (i := 39) rfl))) (by decide) (t := (.array .long)) (t' := .int) (by decide) (by decide)))
  have V1 := V1.other W37 (Ne.symm ne_a_p1)
  have F_passes := F_passes.other W37 (Or.inr (slot_ne (Or.inl (hw _ (List.mem_of_getElem? (i := 15) rfl))) (Or.inl (hw _ (List.mem_of_getElem? (i := 39) rfl))) (by decide) (t := (.array .long)) (t' := .int) (by decide) (by decide)))
  have V2 := V2.other W37 (Ne.symm ne_a_p2)
  have F_firstPositives := F_firstPositives.other W37 (Or.inr (slot_ne (Or.inl (hw _ (List.mem_of_getElem? (i := 17) rfl))) (Or.inl (hw _ (List.mem_of_getElem? (i := 39) rfl))) (by decide) (t := (.array .long)) (t' := .int) (by decide) (by decide)))
  have V3 := V3.other W37 (Ne.symm ne_a_p3)
  have F_firstNegatives := F_firstNegatives.other W37 (Or.inr (slot_ne (Or.inl (hw _ (List.mem_of_getElem? (i := 19) rfl))) (Or.inl (hw _ (List.mem_of_getElem? (i := 39) rfl))) (by decide) (t := (.array .long)) (t' := .int) (by decide) (by decide)))
  have V4 := V4.other W37 (Ne.symm ne_a_p4)
  have F_sharedStateOf := F_sharedStateOf.other W37 (Or.inr (slot_ne (Or.inl (hw _ (List.mem_of_getElem? (i := 22) rfl))) (Or.inl (hw _ (List.mem_of_getElem? (i := 39) rfl))) (by decide) (t := (.array .int)) (t' := .int) (by decide) (by decide)))
  have V5 := V5.other W37 (Ne.symm ne_a_p5)
  have F_ownStateOf := F_ownStateOf.other W37 (Or.inr (slot_ne (Or.inl (hw _ (List.mem_of_getElem? (i := 24) rfl))) (Or.inl (hw _ (List.mem_of_getElem? (i := 39) rfl))) (by decide) (t := (.array .int)) (t' := .int) (by decide) (by decide)))
  have V6 := V6.other W37 (Ne.symm ne_a_p6)
  have Z38 : n0 ≤ h37.size := Nat.le_trans Z35 (Keep.of_wr W37).1
  have KP := KP.wr W37 (Or.inl (List.mem_of_getElem? (i := 0) rfl))
  have F_count := F_count.same W37
  have N37 := Fr.snoc X37 N34 g
  obtain ⟨fs, hr, hrun, hended, hW, hsame⟩ := X37.leave (v := some (.int (0 : Int32))) (fun h => by rw [Bd.returns] at h; cases h)
  refine ⟨_, _, pre0 _ ?_, hrun, hended, _, _, rfl, ?_, ⟨_, rfl⟩, hW, hsame.mono (by decide) (by decide)⟩
  · show Steps p.tables e below (s₁.setTop (mkF m 0 #[.val (.ref a), .val (.int s1), .val (.int o1)] [])) _
    refine XS.aloadN X0.here hx rfl (hb hby own_d9_0) rfl rfl ?_
    show Steps p.tables e below (s₁.setTop (mkF m 1 #[.val (.ref a), .val (.int s1), .val (.int o1)] [(.ref a)])) _
    refine st1 _ ?_
    show Steps p.tables e below (T1.setTop (mkF m 4 #[.val (.ref a), .val (.int s1), .val (.int o1)] [(.ref p0)])) _
    refine XS.aloadN X1.here hx rfl (hb hby own_d9_4) rfl rfl ?_
    show Steps p.tables e below (T1.setTop (mkF m 5 #[.val (.ref a), .val (.int s1), .val (.int o1)] [(.ref a), (.ref p0)])) _
    refine st2 _ ?_
    show Steps p.tables e below (T2.setTop (mkF m 8 #[.val (.ref a), .val (.int s1), .val (.int o1)] [(.int (0 : Int32)), (.ref p0)])) _
    refine XS.lconst X2.here hx rfl (hb hby own_d9_8) ?_
    show Steps p.tables e below (T2.setTop (mkF m 9 #[.val (.ref a), .val (.int s1), .val (.int o1)] [(.long (0 : Int64)), (.int (0 : Int32)), (.ref p0)])) _
    refine st4 _ ?_
    show Steps p.tables e below (T4.setTop (mkF m 10 #[.val (.ref a), .val (.int s1), .val (.int o1)] [])) _
    refine XS.aloadN X4.here hx rfl (hb hby own_d9_10) rfl rfl ?_
    show Steps p.tables e below (T4.setTop (mkF m 11 #[.val (.ref a), .val (.int s1), .val (.int o1)] [(.ref a)])) _
    refine st6 _ ?_
    show Steps p.tables e below (T6.setTop (mkF m 14 #[.val (.ref a), .val (.int s1), .val (.int o1)] [(.ref p1)])) _
    refine XS.aloadN X6.here hx rfl (hb hby own_d9_14) rfl rfl ?_
    show Steps p.tables e below (T6.setTop (mkF m 15 #[.val (.ref a), .val (.int s1), .val (.int o1)] [(.ref a), (.ref p1)])) _
    refine st7 _ ?_
    show Steps p.tables e below (T7.setTop (mkF m 18 #[.val (.ref a), .val (.int s1), .val (.int o1)] [(.int (0 : Int32)), (.ref p1)])) _
    refine XS.lconst X7.here hx rfl (hb hby own_d9_18) ?_
    show Steps p.tables e below (T7.setTop (mkF m 19 #[.val (.ref a), .val (.int s1), .val (.int o1)] [(.long (0 : Int64)), (.int (0 : Int32)), (.ref p1)])) _
    refine st9 _ ?_
    show Steps p.tables e below (T9.setTop (mkF m 20 #[.val (.ref a), .val (.int s1), .val (.int o1)] [])) _
    refine XS.aloadN X9.here hx rfl (hb hby own_d9_20) rfl rfl ?_
    show Steps p.tables e below (T9.setTop (mkF m 21 #[.val (.ref a), .val (.int s1), .val (.int o1)] [(.ref a)])) _
    refine st11 _ ?_
    show Steps p.tables e below (T11.setTop (mkF m 24 #[.val (.ref a), .val (.int s1), .val (.int o1)] [(.ref p2)])) _
    refine XS.aloadN X11.here hx rfl (hb hby own_d9_24) rfl rfl ?_
    show Steps p.tables e below (T11.setTop (mkF m 25 #[.val (.ref a), .val (.int s1), .val (.int o1)] [(.ref a), (.ref p2)])) _
    refine st12 _ ?_
    show Steps p.tables e below (T12.setTop (mkF m 28 #[.val (.ref a), .val (.int s1), .val (.int o1)] [(.int (0 : Int32)), (.ref p2)])) _
    refine XS.lconst X12.here hx rfl (hb hby own_d9_28) ?_
    show Steps p.tables e below (T12.setTop (mkF m 29 #[.val (.ref a), .val (.int s1), .val (.int o1)] [(.long (0 : Int64)), (.int (0 : Int32)), (.ref p2)])) _
    refine st14 _ ?_
    show Steps p.tables e below (T14.setTop (mkF m 30 #[.val (.ref a), .val (.int s1), .val (.int o1)] [])) _
    refine XS.aloadN X14.here hx rfl (hb hby own_d9_30) rfl rfl ?_
    show Steps p.tables e below (T14.setTop (mkF m 31 #[.val (.ref a), .val (.int s1), .val (.int o1)] [(.ref a)])) _
    refine st16 _ ?_
    show Steps p.tables e below (T16.setTop (mkF m 34 #[.val (.ref a), .val (.int s1), .val (.int o1)] [(.ref p3)])) _
    refine XS.aloadN X16.here hx rfl (hb hby own_d9_34) rfl rfl ?_
    show Steps p.tables e below (T16.setTop (mkF m 35 #[.val (.ref a), .val (.int s1), .val (.int o1)] [(.ref a), (.ref p3)])) _
    refine st17 _ ?_
    show Steps p.tables e below (T17.setTop (mkF m 38 #[.val (.ref a), .val (.int s1), .val (.int o1)] [(.int (0 : Int32)), (.ref p3)])) _
    refine X17.ldc2Long hx hown (mvT hZ (hw _ (List.mem_of_getElem? (i := 66) rfl))) (g := (mkF m 38 #[.val (.ref a), .val (.int s1), .val (.int o1)] [(.int (0 : Int32)), (.ref p3)])) rfl (hb hby own_d9_38) _ ?_
    show Steps p.tables e below (T17.setTop (mkF m 41 #[.val (.ref a), .val (.int s1), .val (.int o1)] [(.long (9223372036854775807 : Int64)), (.int (0 : Int32)), (.ref p3)])) _
    refine st19 _ ?_
    show Steps p.tables e below (T19.setTop (mkF m 42 #[.val (.ref a), .val (.int s1), .val (.int o1)] [])) _
    refine XS.aloadN X19.here hx rfl (hb hby own_d9_42) rfl rfl ?_
    show Steps p.tables e below (T19.setTop (mkF m 43 #[.val (.ref a), .val (.int s1), .val (.int o1)] [(.ref a)])) _
    refine st21 _ ?_
    show Steps p.tables e below (T21.setTop (mkF m 46 #[.val (.ref a), .val (.int s1), .val (.int o1)] [(.ref p4)])) _
    refine XS.aloadN X21.here hx rfl (hb hby own_d9_46) rfl rfl ?_
    show Steps p.tables e below (T21.setTop (mkF m 47 #[.val (.ref a), .val (.int s1), .val (.int o1)] [(.ref a), (.ref p4)])) _
    refine st22 _ ?_
    show Steps p.tables e below (T22.setTop (mkF m 50 #[.val (.ref a), .val (.int s1), .val (.int o1)] [(.int (0 : Int32)), (.ref p4)])) _
    refine X22.ldc2Long hx hown (mvT hZ (hw _ (List.mem_of_getElem? (i := 66) rfl))) (g := (mkF m 50 #[.val (.ref a), .val (.int s1), .val (.int o1)] [(.int (0 : Int32)), (.ref p4)])) rfl (hb hby own_d9_50) _ ?_
    show Steps p.tables e below (T22.setTop (mkF m 53 #[.val (.ref a), .val (.int s1), .val (.int o1)] [(.long (9223372036854775807 : Int64)), (.int (0 : Int32)), (.ref p4)])) _
    refine st24 _ ?_
    show Steps p.tables e below (T24.setTop (mkF m 54 #[.val (.ref a), .val (.int s1), .val (.int o1)] [])) _
    refine XS.aloadN X24.here hx rfl (hb hby own_d9_54) rfl rfl ?_
    show Steps p.tables e below (T24.setTop (mkF m 55 #[.val (.ref a), .val (.int s1), .val (.int o1)] [(.ref a)])) _
    refine st26 _ ?_
    show Steps p.tables e below (T26.setTop (mkF m 58 #[.val (.ref a), .val (.int s1), .val (.int o1)] [(.ref p5)])) _
    refine XS.aloadN X26.here hx rfl (hb hby own_d9_58) rfl rfl ?_
    show Steps p.tables e below (T26.setTop (mkF m 59 #[.val (.ref a), .val (.int s1), .val (.int o1)] [(.ref a), (.ref p5)])) _
    refine st27 _ ?_
    show Steps p.tables e below (T27.setTop (mkF m 62 #[.val (.ref a), .val (.int s1), .val (.int o1)] [(.int (0 : Int32)), (.ref p5)])) _
    refine XS.iloadN X27.here hx rfl (hb hby own_d9_62) rfl ?_
    show Steps p.tables e below (T27.setTop (mkF m 63 #[.val (.ref a), .val (.int s1), .val (.int o1)] [(.int s1), (.int (0 : Int32)), (.ref p5)])) _
    refine st29 _ ?_
    show Steps p.tables e below (T29.setTop (mkF m 64 #[.val (.ref a), .val (.int s1), .val (.int o1)] [])) _
    refine XS.aloadN X29.here hx rfl (hb hby own_d9_64) rfl rfl ?_
    show Steps p.tables e below (T29.setTop (mkF m 65 #[.val (.ref a), .val (.int s1), .val (.int o1)] [(.ref a)])) _
    refine st31 _ ?_
    show Steps p.tables e below (T31.setTop (mkF m 68 #[.val (.ref a), .val (.int s1), .val (.int o1)] [(.ref p6)])) _
    refine XS.aloadN X31.here hx rfl (hb hby own_d9_68) rfl rfl ?_
    show Steps p.tables e below (T31.setTop (mkF m 69 #[.val (.ref a), .val (.int s1), .val (.int o1)] [(.ref a), (.ref p6)])) _
    refine st32 _ ?_
    show Steps p.tables e below (T32.setTop (mkF m 72 #[.val (.ref a), .val (.int s1), .val (.int o1)] [(.int (0 : Int32)), (.ref p6)])) _
    refine XS.iloadN X32.here hx rfl (hb hby own_d9_72) rfl ?_
    show Steps p.tables e below (T32.setTop (mkF m 73 #[.val (.ref a), .val (.int s1), .val (.int o1)] [(.int o1), (.int (0 : Int32)), (.ref p6)])) _
    refine st34 _ ?_
    show Steps p.tables e below (T34.setTop (mkF m 74 #[.val (.ref a), .val (.int s1), .val (.int o1)] [])) _
    refine XS.aloadN X34.here hx rfl (hb hby own_d9_74) rfl rfl ?_
    show Steps p.tables e below (T34.setTop (mkF m 75 #[.val (.ref a), .val (.int s1), .val (.int o1)] [(.ref a)])) _
    refine XS.dup X34.here hx rfl (hb hby own_d9_75) rfl rfl ?_
    show Steps p.tables e below (T34.setTop (mkF m 76 #[.val (.ref a), .val (.int s1), .val (.int o1)] [(.ref a), (.ref a)])) _
    refine st36 _ ?_
    show Steps p.tables e below (T36.setTop (mkF m 79 #[.val (.ref a), .val (.int s1), .val (.int o1)] [(.int (0 : Int32)), (.ref a)])) _
    refine XS.dupX1 X36.here hx rfl (hb hby own_d9_79) rfl rfl rfl ?_
    show Steps p.tables e below (T36.setTop (mkF m 80 #[.val (.ref a), .val (.int s1), .val (.int o1)] [(.int (0 : Int32)), (.ref a), (.int (0 : Int32))])) _
    refine XS.iconst X36.here hx rfl (hb hby own_d9_80) ?_
    show Steps p.tables e below (T36.setTop (mkF m 81 #[.val (.ref a), .val (.int s1), .val (.int o1)] [(.int (1 : Int32)), (.int (0 : Int32)), (.ref a), (.int (0 : Int32))])) _
    refine XS.iadd X36.here hx rfl (hb hby own_d9_81) rfl ?_
    show Steps p.tables e below (T36.setTop (mkF m 82 #[.val (.ref a), .val (.int s1), .val (.int o1)] [(.int (1 : Int32)), (.ref a), (.int (0 : Int32))])) _
    refine st37 _ ?_
    show Steps p.tables e below (T37.setTop (mkF m 85 #[.val (.ref a), .val (.int s1), .val (.int o1)] [(.int (0 : Int32))])) _
    exact retI X37 hx Bd.returns (hb hby own_d9_85) hr
  · show own_Q_own_add0 Z a s1 o1 p0 p1 p2 p3 p4 p5 p6 k_0 k_1 k_2 k_3 k_4 k_5 k_6 x0_0 x0_1 x1_0 x1_1 x2_0 x2_1 x3_0 x3_1 x4_0 x4_1 x5_0 x5_1 x6_0 x6_1 h0 n0 _ T37.heap _
    rw [e37]
    exact ⟨rfl, N37, KP, E, F_positives, F_negatives, F_passes, F_firstPositives, F_firstNegatives, F_sharedStateOf, F_ownStateOf, F_count, V0, V1, V2, V3, V4, V5, V6⟩
def own_Q_own_add1 (Z : State) (a : Addr) (s1 : Int32) (o1 : Int32) (p0 : Addr) (p1 : Addr) (p2 : Addr) (p3 : Addr) (p4 : Addr) (p5 : Addr) (p6 : Addr) (k_0 : ClassId) (k_1 : ClassId) (k_2 : ClassId) (k_3 : ClassId) (k_4 : ClassId) (k_5 : ClassId) (k_6 : ClassId) (x0_0 : Int64) (x0_1 : Int64) (x1_0 : Int64) (x1_1 : Int64) (x2_0 : Int64) (x2_1 : Int64) (x3_0 : Int64) (x3_1 : Int64) (x4_0 : Int64) (x4_1 : Int64) (x5_0 : Int32) (x5_1 : Int32) (x6_0 : Int32) (x6_1 : Int32) (h0 : Heap) (n0 : Nat) (v : Option Value) (h : Heap) (L : List Loc) : Prop := v = some (.int (1 : Int32)) ∧ Fr n0 L ∧ Keep h0 h [a, p0, p1, p2, p3, p4, p5, p6] ∧ Exa Z h a "com/example/synclattice/synclattice/sync/StatePairs" ∧ Fld Z h a "com/example/synclattice/synclattice/sync/StatePairs" "positives" "[J" (.ref p0) ∧ Fld Z h a "com/example/synclattice/synclattice/sync/StatePairs" "negatives" "[J" (.ref p1) ∧ Fld Z h a "com/example/synclattice/synclattice/sync/StatePairs" "passes" "[J" (.ref p2) ∧ Fld Z h a "com/example/synclattice/synclattice/sync/StatePairs" "firstPositives" "[J" (.ref p3) ∧ Fld Z h a "com/example/synclattice/synclattice/sync/StatePairs" "firstNegatives" "[J" (.ref p4) ∧ Fld Z h a "com/example/synclattice/synclattice/sync/StatePairs" "sharedStateOf" "[I" (.ref p5) ∧ Fld Z h a "com/example/synclattice/synclattice/sync/StatePairs" "ownStateOf" "[I" (.ref p6) ∧ Fld Z h a "com/example/synclattice/synclattice/sync/StatePairs" "count" "I" (.int (2 : Int32)) ∧ Arv Z h p0 k_0 .long (2 : Int32) [(.long x0_0), (.long (0 : Int64))] (.long (0 : Int64)) ∧ Arv Z h p1 k_1 .long (2 : Int32) [(.long x1_0), (.long (0 : Int64))] (.long (0 : Int64)) ∧ Arv Z h p2 k_2 .long (2 : Int32) [(.long x2_0), (.long (0 : Int64))] (.long (0 : Int64)) ∧ Arv Z h p3 k_3 .long (2 : Int32) [(.long x3_0), (.long (9223372036854775807 : Int64))] (.long (0 : Int64)) ∧ Arv Z h p4 k_4 .long (2 : Int32) [(.long x4_0), (.long (9223372036854775807 : Int64))] (.long (0 : Int64)) ∧ Arv Z h p5 k_5 .int (2 : Int32) [(.int x5_0), (.int s1)] (.int (0 : Int32)) ∧ Arv Z h p6 k_6 .int (2 : Int32) [(.int x6_0), (.int o1)] (.int (0 : Int32))
set_option maxRecDepth 65536 in
set_option maxHeartbeats 40000000 in
theorem own_add1 (l : Launch) (Z : State) (a0 : Array Value) (hw : ∀ d ∈ tables_1, d.before a0 Z = true) (ws : List Jvm.Cond) (a : Addr) (s1 : Int32) (o1 : Int32) (p0 : Addr) (p1 : Addr) (p2 : Addr) (p3 : Addr) (p4 : Addr) (p5 : Addr) (p6 : Addr) (k_0 : ClassId) (k_1 : ClassId) (k_2 : ClassId) (k_3 : ClassId) (k_4 : ClassId) (k_5 : ClassId) (k_6 : ClassId) (x0_0 : Int64) (x0_1 : Int64) (x1_0 : Int64) (x1_1 : Int64) (x2_0 : Int64) (x2_1 : Int64) (x3_0 : Int64) (x3_1 : Int64) (x4_0 : Int64) (x4_1 : Int64) (x5_0 : Int32) (x5_1 : Int32) (x6_0 : Int32) (x6_1 : Int32) (h0 : Heap) (n0 : Nat) (Z0 : n0 ≤ h0.size) (E : Exa Z h0 a "com/example/synclattice/synclattice/sync/StatePairs") (F_positives : Fld Z h0 a "com/example/synclattice/synclattice/sync/StatePairs" "positives" "[J" (.ref p0)) (F_negatives : Fld Z h0 a "com/example/synclattice/synclattice/sync/StatePairs" "negatives" "[J" (.ref p1)) (F_passes : Fld Z h0 a "com/example/synclattice/synclattice/sync/StatePairs" "passes" "[J" (.ref p2)) (F_firstPositives : Fld Z h0 a "com/example/synclattice/synclattice/sync/StatePairs" "firstPositives" "[J" (.ref p3)) (F_firstNegatives : Fld Z h0 a "com/example/synclattice/synclattice/sync/StatePairs" "firstNegatives" "[J" (.ref p4)) (F_sharedStateOf : Fld Z h0 a "com/example/synclattice/synclattice/sync/StatePairs" "sharedStateOf" "[I" (.ref p5)) (F_ownStateOf : Fld Z h0 a "com/example/synclattice/synclattice/sync/StatePairs" "ownStateOf" "[I" (.ref p6)) (F_count : Fld Z h0 a "com/example/synclattice/synclattice/sync/StatePairs" "count" "I" (.int (1 : Int32))) (V0 : Arv Z h0 p0 k_0 .long (2 : Int32) [(.long x0_0), (.long x0_1)] (.long (0 : Int64))) (V1 : Arv Z h0 p1 k_1 .long (2 : Int32) [(.long x1_0), (.long x1_1)] (.long (0 : Int64))) (V2 : Arv Z h0 p2 k_2 .long (2 : Int32) [(.long x2_0), (.long x2_1)] (.long (0 : Int64))) (V3 : Arv Z h0 p3 k_3 .long (2 : Int32) [(.long x3_0), (.long x3_1)] (.long (0 : Int64))) (V4 : Arv Z h0 p4 k_4 .long (2 : Int32) [(.long x4_0), (.long x4_1)] (.long (0 : Int64))) (V5 : Arv Z h0 p5 k_5 .int (2 : Int32) [(.int x5_0), (.int x5_1)] (.int (0 : Int32))) (V6 : Arv Z h0 p6 k_6 .int (2 : Int32) [(.int x6_0), (.int x6_1)] (.int (0 : Int32))) (g : n0 ≤ a) (g0 : n0 ≤ p0) (g1 : n0 ≤ p1) (g2 : n0 ≤ p2) (g3 : n0 ≤ p3) (g4 : n0 ≤ p4) (g5 : n0 ≤ p5) (g6 : n0 ≤ p6) (nn_p0_p1 : p0 ≠ p1) (nn_p0_p2 : p0 ≠ p2) (nn_p0_p3 : p0 ≠ p3) (nn_p0_p4 : p0 ≠ p4) (nn_p0_p5 : p0 ≠ p5) (nn_p0_p6 : p0 ≠ p6) (nn_p1_p2 : p1 ≠ p2) (nn_p1_p3 : p1 ≠ p3) (nn_p1_p4 : p1 ≠ p4) (nn_p1_p5 : p1 ≠ p5) (nn_p1_p6 : p1 ≠ p6) (nn_p2_p3 : p2 ≠ p3) (nn_p2_p4 : p2 ≠ p4) (nn_p2_p5 : p2 ≠ p5) (nn_p2_p6 : p2 ≠ p6) (nn_p3_p4 : p3 ≠ p4) (nn_p3_p5 : p3 ≠ p5) (nn_p3_p6 : p3 ≠ p6) (nn_p4_p5 : p4 ≠ p5) (nn_p4_p6 : p4 ≠ p6) (nn_p5_p6 : p5 ≠ p6) :
    MetFree l (⟨"com/example/synclattice/synclattice/sync/StatePairs", "add", "(II)I"⟩ : MethodName) (head1 (Jvm.Cond.code (⟨"com/example/synclattice/synclattice/sync/StatePairs", "add", "(II)I"⟩ : MethodName) prog_101_method_7_code 3 (some .int) :: ws) ({ frames := 0, cells := 0, slots := 0, locals := 0 } : Room)) (fun as_ U => as_ = #[(.ref a), (.int s1), (.int o1)] ∧ Z.Warmed39 U.vm ∧ U.heap = h0) (fun _ _ _ _ _ => True) (fun _ U o U' => ∃ v L, o = .returned v ∧ own_Q_own_add1 Z a s1 o1 p0 p1 p2 p3 p4 p5 p6 k_0 k_1 k_2 k_3 k_4 k_5 k_6 x0_0 x0_1 x1_0 x1_1 x2_0 x2_1 x3_0 x3_1 x4_0 x4_1 x5_0 x5_1 x6_0 x6_1 h0 n0 v U'.heap L ∧ FrameEnd U o U' L ({ frames := 0, cells := 0, slots := 0, locals := 0 } : Room).cells ({ frames := 0, cells := 0, slots := 0, locals := 0 } : Room).slots) := by
  refine MetFree.of_bodySF (plainFor_of_name own_pn0) hisR ?_
  intro p e s m args below meth c s₁ Bd hml0 hP hK
  obtain ⟨rfl, hZ, hh⟩ := hP
  have hx := Bd.exec
  have hby := Bd.bytes
  have hml : c.maxLocals = 3 := hml0
  have hown : s.vm.findClass "com/example/synclattice/synclattice/sync/StatePairs" = some m.cls := findClass_of_methodNamed Bd.named
  have hnm := (name_of_methodNamed Bd.named Bd.method).1
  have X0 : Stand p l e ({ frames := 0, cells := 0, slots := 0, locals := 0 } : Room) s m #[(.ref a), (.int s1), (.int o1)] below meth c s₁ [] 0 0 := Stand.of_body Bd
  have e0 : s₁.heap = h0 := by rw [← hh, Bd.state]; rfl
  have N0 := Fr.nil n0
  have pre0 : ∀ t, Steps p.tables e below (s₁.setTop (mkF m 0 #[.val (.ref a), .val (.int s1), .val (.int o1)] [])) t → Steps p.tables e below (s₁.setTop (entryFrame m #[(.ref a), (.int s1), (.int o1)] 3)) t := fun t k => castTop (own_ef9 m a s1 o1) k
  have KP := Keep.refl h0 ([a, p0, p1, p2, p3, p4, p5, p6] : List Addr)
  obtain ⟨T1, X1, e1, st1⟩ := getF X0 hx hZ hown (host := "") (Or.inl (hw _ (List.mem_of_getElem? (i := 10) rfl))) Via.refl e0 F_positives (g := (mkF m 1 #[.val (.ref a), .val (.int s1), .val (.int o1)] [(.ref a)])) rfl rfl (hb hby own_d9_1)
  obtain ⟨T2, X2, e2, st2⟩ := getF X1 hx hZ hown (host := "") (Or.inl (hw _ (List.mem_of_getElem? (i := 38) rfl))) Via.refl e1 F_count (g := (mkF m 5 #[.val (.ref a), .val (.int s1), .val (.int o1)] [(.ref a), (.ref p0)])) rfl rfl (hb hby own_d9_5)
  obtain ⟨cl3, Ar3, q3, S3, M3, H3, G3⟩ := id V0
  have hin3 : ¬ ((1 : Int32) < 0 ∨ cl3.slots.size ≤ ((1 : Int32)).toNatClampNeg) := inb_of S3 ⟨by decide, by decide⟩
  obtain ⟨T4, h4, X4, e4, W4, st4⟩ := stJ X2 hx hZ e2 Ar3 (j := (1 : Int32)) hin3 (g := (mkF m 9 #[.val (.ref a), .val (.int s1), .val (.int o1)] [(.long (0 : Int64)), (.int (1 : Int32)), (.ref p0)])) rfl rfl (hb hby own_d9_9)
  have ne_a_p0 : a ≠ p0 := Exa.neArv E V0 (hw _ (List.mem_of_getElem? (i := 1) rfl))
  have E := E.wr W4
  have F_positives := F_positives.other W4 (Or.inl ne_a_p0)
  have F_negatives := F_negatives.other W4 (Or.inl ne_a_p0)
  have V1 := V1.other W4 (Ne.symm nn_p0_p1)
  have F_passes := F_passes.other W4 (Or.inl ne_a_p0)
  have V2 := V2.other W4 (Ne.symm nn_p0_p2)
  have F_firstPositives := F_firstPositives.other W4 (Or.inl ne_a_p0)
  have V3 := V3.other W4 (Ne.symm nn_p0_p3)
  have F_firstNegatives := F_firstNegatives.other W4 (Or.inl ne_a_p0)
  have V4 := V4.other W4 (Ne.symm nn_p0_p4)
  have F_sharedStateOf := F_sharedStateOf.other W4 (Or.inl ne_a_p0)
  have V5 := V5.other W4 (Ne.symm nn_p0_p5)
  have F_ownStateOf := F_ownStateOf.other W4 (Or.inl ne_a_p0)
  have V6 := V6.other W4 (Ne.symm nn_p0_p6)
  have F_count := F_count.other W4 (Or.inl ne_a_p0)
  have Z5 : n0 ≤ h4.size := Nat.le_trans Z0 (Keep.of_wr W4).1
  have KP := KP.wr W4 (Or.inl (List.mem_of_getElem? (i := 1) rfl))
  have V0 := Arv.set Ar3 q3 S3 M3 H3 G3 rfl W4 1 rfl (Nat.le_of_ble_eq_true rfl)
  have V0 : Arv Z h4 p0 k_0 .long (2 : Int32) [(.long x0_0), (.long (0 : Int64))] (.long (0 : Int64)) := V0
  have N4 := Fr.snoc X4 N0 g0
  obtain ⟨T6, X6, e6, st6⟩ := getF X4 hx hZ hown (host := "") (Or.inl (hw _ (List.mem_of_getElem? (i := 12) rfl))) Via.refl e4 F_negatives (g := (mkF m 11 #[.val (.ref a), .val (.int s1), .val (.int o1)] [(.ref a)])) rfl rfl (hb hby own_d9_11)
  obtain ⟨T7, X7, e7, st7⟩ := getF X6 hx hZ hown (host := "") (Or.inl (hw _ (List.mem_of_getElem? (i := 38) rfl))) Via.refl e6 F_count (g := (mkF m 15 #[.val (.ref a), .val (.int s1), .val (.int o1)] [(.ref a), (.ref p1)])) rfl rfl (hb hby own_d9_15)
  obtain ⟨cl8, Ar8, q8, S8, M8, H8, G8⟩ := id V1
  have hin8 : ¬ ((1 : Int32) < 0 ∨ cl8.slots.size ≤ ((1 : Int32)).toNatClampNeg) := inb_of S8 ⟨by decide, by decide⟩
  obtain ⟨T9, h9, X9, e9, W9, st9⟩ := stJ X7 hx hZ e7 Ar8 (j := (1 : Int32)) hin8 (g := (mkF m 19 #[.val (.ref a), .val (.int s1), .val (.int o1)] [(.long (0 : Int64)), (.int (1 : Int32)), (.ref p1)])) rfl rfl (hb hby own_d9_19)
  have ne_a_p1 : a ≠ p1 := Exa.neArv E V1 (hw _ (List.mem_of_getElem? (i := 1) rfl))
  have E := E.wr W9
  have F_positives := F_positives.other W9 (Or.inl ne_a_p1)
  have V0 := V0.other W9 nn_p0_p1
  have F_negatives := F_negatives.other W9 (Or.inl ne_a_p1)
  have F_passes := F_passes.other W9 (Or.inl ne_a_p1)
  have V2 := V2.other W9 (Ne.symm nn_p1_p2)
  have F_firstPositives := F_firstPositives.other W9 (Or.inl ne_a_p1)
  have V3 := V3.other W9 (Ne.symm nn_p1_p3)
  have F_firstNegatives := F_firstNegatives.other W9 (Or.inl ne_a_p1)
  have V4 := V4.other W9 (Ne.symm nn_p1_p4)
  have F_sharedStateOf := F_sharedStateOf.other W9 (Or.inl ne_a_p1)
  have V5 := V5.other W9 (Ne.symm nn_p1_p5)
  have F_ownStateOf := F_ownStateOf.other W9 (Or.inl ne_a_p1)
  have V6 := V6.other W9 (Ne.symm nn_p1_p6)
  have F_count := F_count.other W9 (Or.inl ne_a_p1)
  have Z10 : n0 ≤ h9.size := Nat.le_trans Z5 (Keep.of_wr W9).1
  have KP := KP.wr W9 (Or.inl (List.mem_of_getElem? (i := 2) rfl))
  have V1 := Arv.set Ar8 q8 S8 M8 H8 G8 rfl W9 1 rfl (Nat.le_of_ble_eq_true rfl)
  have V1 : Arv Z h9 p1 k_1 .long (2 : Int32) [(.long x1_0), (.long (0 : Int64))] (.long (0 : Int64)) := V1
  have N9 := Fr.snoc X9 N4 g1
  obtain ⟨T11, X11, e11, st11⟩ := getF X9 hx hZ hown (host := "") (Or.inl (hw _ (List.mem_of_getElem? (i := 14) rfl))) Via.refl e9 F_passes (g := (mkF m 21 #[.val (.ref a), .val (.int s1), .val (.int o1)] [(.ref a)])) rfl rfl (hb hby own_d9_21)
  obtain ⟨T12, X12, e12, st12⟩ := getF X11 hx hZ hown (host := "") (Or.inl (hw _ (List.mem_of_getElem? (i := 38) rfl))) Via.refl e11 F_count (g := (mkF m 25 #[.val (.ref a), .val (.int s1), .val (.int o1)] [(.ref a), (.ref p2)])) rfl rfl (hb hby own_d9_25)
  obtain ⟨cl13, Ar13, q13, S13, M13, H13, G13⟩ := id V2
  have hin13 : ¬ ((1 : Int32) < 0 ∨ cl13.slots.size ≤ ((1 : Int32)).toNatClampNeg) := inb_of S13 ⟨by decide, by decide⟩
  obtain ⟨T14, h14, X14, e14, W14, st14⟩ := stJ X12 hx hZ e12 Ar13 (j := (1 : Int32)) hin13 (g := (mkF m 29 #[.val (.ref a), .val (.int s1), .val (.int o1)] [(.long (0 : Int64)), (.int (1 : Int32)), (.ref p2)])) rfl rfl (hb hby own_d9_29)
  have ne_a_p2 : a ≠ p2 := Exa.neArv E V2 (hw _ (List.mem_of_getElem? (i := 1) rfl))
  have E := E.wr W14
  have F_positives := F_positives.other W14 (Or.inl ne_a_p2)
  have V0 := V0.other W14 nn_p0_p2
  have F_negatives := F_negatives.other W14 (Or.inl ne_a_p2)
  have V1 := V1.other W14 nn_p1_p2
  have F_passes := F_passes.other W14 (Or.inl ne_a_p2)
  have F_firstPositives := F_firstPositives.other W14 (Or.inl ne_a_p2)
  have V3 := V3.other W14 (Ne.symm nn_p2_p3)
  have F_firstNegatives := F_firstNegatives.other W14 (Or.inl ne_a_p2)
  have V4 := V4.other W14 (Ne.symm nn_p2_p4)
  have F_sharedStateOf := F_sharedStateOf.other W14 (Or.inl ne_a_p2)
  have V5 := V5.other W14 (Ne.symm nn_p2_p5)
  have F_ownStateOf := F_ownStateOf.other W14 (Or.inl ne_a_p2)
  have V6 := V6.other W14 (Ne.symm nn_p2_p6)
  have F_count := F_count.other W14 (Or.inl ne_a_p2)
  have Z15 : n0 ≤ h14.size := Nat.le_trans Z10 (Keep.of_wr W14).1
  have KP := KP.wr W14 (Or.inl (List.mem_of_getElem? (i := 3) rfl))
  have V2 := Arv.set Ar13 q13 S13 M13 H13 G13 rfl W14 1 rfl (Nat.le_of_ble_eq_true rfl)
  have V2 : Arv Z h14 p2 k_2 .long (2 : Int32) [(.long x2_0), (.long (0 : Int64))] (.long (0 : Int64)) := V2
  have N14 := Fr.snoc X14 N9 g2
  obtain ⟨T16, X16, e16, st16⟩ := getF X14 hx hZ hown (host := "") (Or.inl (hw _ (List.mem_of_getElem? (i := 16) rfl))) Via.refl e14 F_firstPositives (g := (mkF m 31 #[.val (.ref a), .val (.int s1), .val (.int o1)] [(.ref a)])) rfl rfl (hb hby own_d9_31)
  obtain ⟨T17, X17, e17, st17⟩ := getF X16 hx hZ hown (host := "") (Or.inl (hw _ (List.mem_of_getElem? (i := 38) rfl))) Via.refl e16 F_count (g := (mkF m 35 #[.val (.ref a), .val (.int s1), .val (.int o1)] [(.ref a), (.ref p3)])) rfl rfl (hb hby own_d9_35)
  obtain ⟨cl18, Ar18, q18, S18, M18, H18, G18⟩ := id V3
  have hin18 : ¬ ((1 : Int32) < 0 ∨ cl18.slots.size ≤ ((1 : Int32)).toNatClampNeg) := inb_of S18 ⟨by decide, by decide⟩
  obtain ⟨T19, h19, X19, e19, W19, st19⟩ := stJ X17 hx hZ e17 Ar18 (j := (1 : Int32)) hin18 (g := (mkF m 41 #[.val (.ref a), .val (.int s1), .val (.int o1)] [(.long (9223372036854775807 : Int64)), (.int (1 : Int32)), (.ref p3)])) rfl rfl (hb hby own_d9_41)
  have ne_a_p3 : a ≠ p3 := Exa.neArv E V3 (hw _ (List.mem_of_getElem? (i := 1) rfl))
  have E := E.wr W19
  have F_positives := F_positives.other W19 (Or.inl ne_a_p3)
  have V0 := V0.other W19 nn_p0_p3
  have F_negatives := F_negatives.other W19 (Or.inl ne_a_p3)
  have V1 := V1.other W19 nn_p1_p3
  have F_passes := F_passes.other W19 (Or.inl ne_a_p3)
  have V2 := V2.other W19 nn_p2_p3
  have F_firstPositives := F_firstPositives.other W19 (Or.inl ne_a_p3)
  have F_firstNegatives := F_firstNegatives.other W19 (Or.inl ne_a_p3)
  have V4 := V4.other W19 (Ne.symm nn_p3_p4)
  have F_sharedStateOf := F_sharedStateOf.other W19 (Or.inl ne_a_p3)
  have V5 := V5.other W19 (Ne.symm nn_p3_p5)
  have F_ownStateOf := F_ownStateOf.other W19 (Or.inl ne_a_p3)
  have V6 := V6.other W19 (Ne.symm nn_p3_p6)
  have F_count := F_count.other W19 (Or.inl ne_a_p3)
  have Z20 : n0 ≤ h19.size := Nat.le_trans Z15 (Keep.of_wr W19).1
  have KP := KP.wr W19 (Or.inl (List.mem_of_getElem? (i := 4) rfl))
  have V3 := Arv.set Ar18 q18 S18 M18 H18 G18 rfl W19 1 rfl (Nat.le_of_ble_eq_true rfl)
  have V3 : Arv Z h19 p3 k_3 .long (2 : Int32) [(.long x3_0), (.long (9223372036854775807 : Int64))] (.long (0 : Int64)) := V3
  have N19 := Fr.snoc X19 N14 g3
  obtain ⟨T21, X21, e21, st21⟩ := getF X19 hx hZ hown (host := "") (Or.inl (hw _ (List.mem_of_getElem? (i := 18) rfl))) Via.refl e19 F_firstNegatives (g := (mkF m 43 #[.val (.ref a), .val (.int s1), .val (.int o1)] [(.ref a)])) rfl rfl (hb hby own_d9_43)
  obtain ⟨T22, X22, e22, st22⟩ := getF X21 hx hZ hown (host := "") (Or.inl (hw _ (List.mem_of_getElem? (i := 38) rfl))) Via.refl e21 F_count (g := (mkF m 47 #[.val (.ref a), .val (.int s1), .val (.int o1)] [(.ref a), (.ref p4)])) rfl rfl (hb hby own_d9_47)
  obtain ⟨cl23, Ar23, q23, S23, M23, H23, G23⟩ := id V4
  have hin23 : ¬ ((1 : Int32) < 0 ∨ cl23.slots.size ≤ ((1 : Int32)).toNatClampNeg) := inb_of S23 ⟨by decide, by decide⟩
  obtain ⟨T24, h24, X24, e24, W24, st24⟩ := stJ X22 hx hZ e22 Ar23 (j := (1 : Int32)) hin23 (g := (mkF m 53 #[.val (.ref a), .val (.int s1), .val (.int o1)] [(.long (9223372036854775807 : Int64)), (.int (1 : Int32)), (.ref p4)])) rfl rfl (hb hby own_d9_53)
  have ne_a_p4 : a ≠ p4 := Exa.neArv E V4 (hw _ (List.mem_of_getElem? (i := 1) rfl))
  have E := E.wr W24
  have F_positives := F_positives.other W24 (Or.inl ne_a_p4)
  have V0 := V0.other W24 nn_p0_p4
  have F_negatives := F_negatives.other W24 (Or.inl ne_a_p4)
  have V1 := V1.other W24 nn_p1_p4
  have F_passes := F_passes.other W24 (Or.inl ne_a_p4)
  have V2 := V2.other W24 nn_p2_p4
  have F_firstPositives := F_firstPositives.other W24 (Or.inl ne_a_p4)
  have V3 := V3.other W24 nn_p3_p4
  have F_firstNegatives := F_firstNegatives.other W24 (Or.inl ne_a_p4)
  have F_sharedStateOf := F_sharedStateOf.other W24 (Or.inl ne_a_p4)
  have V5 := V5.other W24 (Ne.symm nn_p4_p5)
  have F_ownStateOf := F_ownStateOf.other W24 (Or.inl ne_a_p4)
  have V6 := V6.other W24 (Ne.symm nn_p4_p6)
  have F_count := F_count.other W24 (Or.inl ne_a_p4)
  have Z25 : n0 ≤ h24.size := Nat.le_trans Z20 (Keep.of_wr W24).1
  have KP := KP.wr W24 (Or.inl (List.mem_of_getElem? (i := 5) rfl))
  have V4 := Arv.set Ar23 q23 S23 M23 H23 G23 rfl W24 1 rfl (Nat.le_of_ble_eq_true rfl)
  have V4 : Arv Z h24 p4 k_4 .long (2 : Int32) [(.long x4_0), (.long (9223372036854775807 : Int64))] (.long (0 : Int64)) := V4
  have N24 := Fr.snoc X24 N19 g4
  obtain ⟨T26, X26, e26, st26⟩ := getF X24 hx hZ hown (host := "") (Or.inl (hw _ (List.mem_of_getElem? (i := 21) rfl))) Via.refl e24 F_sharedStateOf (g := (mkF m 55 #[.val (.ref a), .val (.int s1), .val (.int o1)] [(.ref a)])) rfl rfl (hb hby own_d9_55)
  obtain ⟨T27, X27, e27, st27⟩ := getF X26 hx hZ hown (host := "") (Or.inl (hw _ (List.mem_of_getElem? (i := 38) rfl))) Via.refl e26 F_count (g := (mkF m 59 #[.val (.ref a), .val (.int s1), .val (.int o1)] [(.ref a), (.ref p5)])) rfl rfl (hb hby own_d9_59)
  obtain ⟨cl28, Ar28, q28, S28, M28, H28, G28⟩ := id V5
  have hin28 : ¬ ((1 : Int32) < 0 ∨ cl28.slots.size ≤ ((1 : Int32)).toNatClampNeg) := inb_of S28 ⟨by decide, by decide⟩
  obtain ⟨T29, h29, X29, e29, W29, st29⟩ := stI X27 hx hZ e27 Ar28 (j := (1 : Int32)) hin28 (g := (mkF m 63 #[.val (.ref a), .val (.int s1), .val (.int o1)] [(.int s1), (.int (1 : Int32)), (.ref p5)])) rfl rfl (hb hby own_d9_63)
  have ne_a_p5 : a ≠ p5 := Exa.neArv E V5 (hw _ (List.mem_of_getElem? (i := 1) rfl))
  have E := E.wr W29
  have F_positives := F_positives.other W29 (Or.inl ne_a_p5)
  have V0 := V0.other W29 nn_p0_p5
  have F_negatives := F_negatives.other W29 (Or.inl ne_a_p5)
  have V1 := V1.other W29 nn_p1_p5
  have F_passes := F_passes.other W29 (Or.inl ne_a_p5)
  have V2 := V2.other W29 nn_p2_p5
  have F_firstPositives := F_firstPositives.other W29 (Or.inl ne_a_p5)
  have V3 := V3.other W29 nn_p3_p5
  have F_firstNegatives := F_firstNegatives.other W29 (Or.inl ne_a_p5)
  have V4 := V4.other W29 nn_p4_p5
  have F_sharedStateOf := F_sharedStateOf.other W29 (Or.inl ne_a_p5)
  have F_ownStateOf := F_ownStateOf.other W29 (Or.inl ne_a_p5)
  have V6 := V6.other W29 (Ne.symm nn_p5_p6)
  have F_count := F_count.other W29 (Or.inl ne_a_p5)
  have Z30 : n0 ≤ h29.size := Nat.le_trans Z25 (Keep.of_wr W29).1
  have KP := KP.wr W29 (Or.inl (List.mem_of_getElem? (i := 6) rfl))
  have V5 := Arv.set Ar28 q28 S28 M28 H28 G28 rfl W29 1 rfl (Nat.le_of_ble_eq_true rfl)
  have V5 : Arv Z h29 p5 k_5 .int (2 : Int32) [(.int x5_0), (.int s1)] (.int (0 : Int32)) := V5
  have N29 := Fr.snoc X29 N24 g5
  obtain ⟨T31, X31, e31, st31⟩ := getF X29 hx hZ hown (host := "") (Or.inl (hw _ (List.mem_of_getElem? (i := 23) rfl))) Via.refl e29 F_ownStateOf (g := (mkF m 65 #[.val (.ref a), .val (.int s1), .val (.int o1)] [(.ref a)])) rfl rfl (hb hby own_d9_65)
  obtain ⟨T32, X32, e32, st32⟩ := getF X31 hx hZ hown (host := "") (Or.inl (hw _ (List.mem_of_getElem? (i := 38) rfl))) Via.refl e31 F_count (g := (mkF m 69 #[.val (.ref a), .val (.int s1), .val (.int o1)] [(.ref a), (.ref p6)])) rfl rfl (hb hby own_d9_69)
  obtain ⟨cl33, Ar33, q33, S33, M33, H33, G33⟩ := id V6
  have hin33 : ¬ ((1 : Int32) < 0 ∨ cl33.slots.size ≤ ((1 : Int32)).toNatClampNeg) := inb_of S33 ⟨by decide, by decide⟩
  obtain ⟨T34, h34, X34, e34, W34, st34⟩ := stI X32 hx hZ e32 Ar33 (j := (1 : Int32)) hin33 (g := (mkF m 73 #[.val (.ref a), .val (.int s1), .val (.int o1)] [(.int o1), (.int (1 : Int32)), (.ref p6)])) rfl rfl (hb hby own_d9_73)
  have ne_a_p6 : a ≠ p6 := Exa.neArv E V6 (hw _ (List.mem_of_getElem? (i := 1) rfl))
  have E := E.wr W34
  have F_positives := F_positives.other W34 (Or.inl ne_a_p6)
  have V0 := V0.other W34 nn_p0_p6
  have F_negatives := F_negatives.other W34 (Or.inl ne_a_p6)
  have V1 := V1.other W34 nn_p1_p6
  have F_passes := F_passes.other W34 (Or.inl ne_a_p6)
  have V2 := V2.other W34 nn_p2_p6
  have F_firstPositives := F_firstPositives.other W34 (Or.inl ne_a_p6)
  have V3 := V3.other W34 nn_p3_p6
  have F_firstNegatives := F_firstNegatives.other W34 (Or.inl ne_a_p6)
  have V4 := V4.other W34 nn_p4_p6
  have F_sharedStateOf := F_sharedStateOf.other W34 (Or.inl ne_a_p6)
  have V5 := V5.other W34 nn_p5_p6
  have F_ownStateOf := F_ownStateOf.other W34 (Or.inl ne_a_p6)
  have F_count := F_count.other W34 (Or.inl ne_a_p6)
  have Z35 : n0 ≤ h34.size := Nat.le_trans Z30 (Keep.of_wr W34).1
  have KP := KP.wr W34 (Or.inl (List.mem_of_getElem? (i := 7) rfl))
  have V6 := Arv.set Ar33 q33 S33 M33 H33 G33 rfl W34 1 rfl (Nat.le_of_ble_eq_true rfl)
  have V6 : Arv Z h34 p6 k_6 .int (2 : Int32) [(.int x6_0), (.int o1)] (.int (0 : Int32)) := V6
  have N34 := Fr.snoc X34 N29 g6
  obtain ⟨T36, X36, e36, st36⟩ := getF X34 hx hZ hown (host := "") (Or.inl (hw _ (List.mem_of_getElem? (i := 38) rfl))) Via.refl e34 F_count (g := (mkF m 76 #[.val (.ref a), .val (.int s1), .val (.int o1)] [(.ref a), (.ref a)])) rfl rfl (hb hby own_d9_76)
  obtain ⟨T37, h37, X37, e37, W37, st37⟩ := putF X36 hx hZ hown (host := "") (Or.inl (hw _ (List.mem_of_getElem? (i := 38) rfl))) Via.refl e36 F_count E (Or.inl (hw _ (List.mem_of_getElem? (i := 39) rfl))) (hw _ (List.mem_of_getElem? (i := 1) rfl)) (ty := .int) (by decide) rfl rfl (g := (mkF m 82 #[.val (.ref a), .val (.int s1), .val (.int o1)] [(.int (2 : Int32)), (.ref a), (.int (1 : Int32))])) rfl rfl (hb hby own_d9_82)
  have E := E.wr W37
  have F_positives := F_positives.other W37 (Or.inr (slot_ne (Or.inl (hw _ (List.mem_of_getElem? (i := 11) rfl))) (Or.inl (hw _ (List.mem_of_getElem? (i := 39) rfl))) (by decide) (t := (.array .long)) (t' := .int) (by decide) (by decide)))
  have V0 := V0.other W37 (Ne.symm ne_a_p0)
  have F_negatives := F_negatives.other W37 (Or.inr (slot_ne (Or.inl (hw _ (List.mem_of_getElem? (i := 13) rfl))) (Or.inl (hw _ (List.mem_of_getElem? (i := 39) rfl))) (by decide) (t := (.array .long)) (t' := .int) (by decide) (by decide)))
  have V1 := V1.other W37 (Ne.symm ne_a_p1)
  have F_passes := F_passes.other W37 (Or.inr (slot_ne (Or.inl (hw _ (List.mem_of_getElem? (i := 15) rfl))) (Or.inl (hw _ (List.mem_of_getElem? (i := 39) rfl))) (by decide) (t := (.array .long)) (t' := .int) (by decide) (by decide)))
  have V2 := V2.other W37 (Ne.symm ne_a_p2)
  have F_firstPositives := F_firstPositives.other W37 (Or.inr (slot_ne (Or.inl (hw _ (List.mem_of_getElem? (i := 17) rfl))) (Or.inl (hw _ (List.mem_of_getElem? (i := 39) rfl))) (by decide) (t := (.array .long)) (t' := .int) (by decide) (by decide)))
  have V3 := V3.other W37 (Ne.symm ne_a_p3)
  have F_firstNegatives := F_firstNegatives.other W37 (Or.inr (slot_ne (Or.inl (hw _ (List.mem_of_getElem? (i := 19) rfl))) (Or.inl (hw _ (List.mem_of_getElem? (i := 39) rfl))) (by decide) (t := (.array .long)) (t' := .int) (by decide) (by decide)))
  have V4 := V4.other W37 (Ne.symm ne_a_p4)
  have F_sharedStateOf := F_sharedStateOf.other W37 (Or.inr (slot_ne (Or.inl (hw _ (List.mem_of_getElem? (i := 22) rfl))) (Or.inl (hw _ (List.mem_of_getElem? (i := 39) rfl))) (by decide) (t := (.array .int)) (t' := .int) (by decide) (by decide)))
  have V5 := V5.other W37 (Ne.symm ne_a_p5)
  have F_ownStateOf := F_ownStateOf.other W37 (Or.inr (slot_ne (Or.inl (hw _ (List.mem_of_getElem? (i := 24) rfl))) (Or.inl (hw _ (List.mem_of_getElem? (i := 39) rfl))) (by decide) (t := (.array .int)) (t' := .int) (by decide) (by decide)))
  have V6 := V6.other W37 (Ne.symm ne_a_p6)
  have Z38 : n0 ≤ h37.size := Nat.le_trans Z35 (Keep.of_wr W37).1
  have KP := KP.wr W37 (Or.inl (List.mem_of_getElem? (i := 0) rfl))
  have F_count := F_count.same W37
  have N37 := Fr.snoc X37 N34 g
  obtain ⟨fs, hr, hrun, hended, hW, hsame⟩ := X37.leave (v := some (.int (1 : Int32))) (fun h => by rw [Bd.returns] at h; cases h)
  refine ⟨_, _, pre0 _ ?_, hrun, hended, _, _, rfl, ?_, ⟨_, rfl⟩, hW, hsame.mono (by decide) (by decide)⟩
  · show Steps p.tables e below (s₁.setTop (mkF m 0 #[.val (.ref a), .val (.int s1), .val (.int o1)] [])) _
    refine XS.aloadN X0.here hx rfl (hb hby own_d9_0) rfl rfl ?_
    show Steps p.tables e below (s₁.setTop (mkF m 1 #[.val (.ref a), .val (.int s1), .val (.int o1)] [(.ref a)])) _
    refine st1 _ ?_
    show Steps p.tables e below (T1.setTop (mkF m 4 #[.val (.ref a), .val (.int s1), .val (.int o1)] [(.ref p0)])) _
    refine XS.aloadN X1.here hx rfl (hb hby own_d9_4) rfl rfl ?_
    show Steps p.tables e below (T1.setTop (mkF m 5 #[.val (.ref a), .val (.int s1), .val (.int o1)] [(.ref a), (.ref p0)])) _
    refine st2 _ ?_
    show Steps p.tables e below (T2.setTop (mkF m 8 #[.val (.ref a), .val (.int s1), .val (.int o1)] [(.int (1 : Int32)), (.ref p0)])) _
    refine XS.lconst X2.here hx rfl (hb hby own_d9_8) ?_
    show Steps p.tables e below (T2.setTop (mkF m 9 #[.val (.ref a), .val (.int s1), .val (.int o1)] [(.long (0 : Int64)), (.int (1 : Int32)), (.ref p0)])) _
    refine st4 _ ?_
    show Steps p.tables e below (T4.setTop (mkF m 10 #[.val (.ref a), .val (.int s1), .val (.int o1)] [])) _
    refine XS.aloadN X4.here hx rfl (hb hby own_d9_10) rfl rfl ?_
    show Steps p.tables e below (T4.setTop (mkF m 11 #[.val (.ref a), .val (.int s1), .val (.int o1)] [(.ref a)])) _
    refine st6 _ ?_
    show Steps p.tables e below (T6.setTop (mkF m 14 #[.val (.ref a), .val (.int s1), .val (.int o1)] [(.ref p1)])) _
    refine XS.aloadN X6.here hx rfl (hb hby own_d9_14) rfl rfl ?_
    show Steps p.tables e below (T6.setTop (mkF m 15 #[.val (.ref a), .val (.int s1), .val (.int o1)] [(.ref a), (.ref p1)])) _
    refine st7 _ ?_
    show Steps p.tables e below (T7.setTop (mkF m 18 #[.val (.ref a), .val (.int s1), .val (.int o1)] [(.int (1 : Int32)), (.ref p1)])) _
    refine XS.lconst X7.here hx rfl (hb hby own_d9_18) ?_
    show Steps p.tables e below (T7.setTop (mkF m 19 #[.val (.ref a), .val (.int s1), .val (.int o1)] [(.long (0 : Int64)), (.int (1 : Int32)), (.ref p1)])) _
    refine st9 _ ?_
    show Steps p.tables e below (T9.setTop (mkF m 20 #[.val (.ref a), .val (.int s1), .val (.int o1)] [])) _
    refine XS.aloadN X9.here hx rfl (hb hby own_d9_20) rfl rfl ?_
    show Steps p.tables e below (T9.setTop (mkF m 21 #[.val (.ref a), .val (.int s1), .val (.int o1)] [(.ref a)])) _
    refine st11 _ ?_
    show Steps p.tables e below (T11.setTop (mkF m 24 #[.val (.ref a), .val (.int s1), .val (.int o1)] [(.ref p2)])) _
    refine XS.aloadN X11.here hx rfl (hb hby own_d9_24) rfl rfl ?_
    show Steps p.tables e below (T11.setTop (mkF m 25 #[.val (.ref a), .val (.int s1), .val (.int o1)] [(.ref a), (.ref p2)])) _
    refine st12 _ ?_
    show Steps p.tables e below (T12.setTop (mkF m 28 #[.val (.ref a), .val (.int s1), .val (.int o1)] [(.int (1 : Int32)), (.ref p2)])) _
    refine XS.lconst X12.here hx rfl (hb hby own_d9_28) ?_
    show Steps p.tables e below (T12.setTop (mkF m 29 #[.val (.ref a), .val (.int s1), .val (.int o1)] [(.long (0 : Int64)), (.int (1 : Int32)), (.ref p2)])) _
    refine st14 _ ?_
    show Steps p.tables e below (T14.setTop (mkF m 30 #[.val (.ref a), .val (.int s1), .val (.int o1)] [])) _
    refine XS.aloadN X14.here hx rfl (hb hby own_d9_30) rfl rfl ?_
    show Steps p.tables e below (T14.setTop (mkF m 31 #[.val (.ref a), .val (.int s1), .val (.int o1)] [(.ref a)])) _
    refine st16 _ ?_
    show Steps p.tables e below (T16.setTop (mkF m 34 #[.val (.ref a), .val (.int s1), .val (.int o1)] [(.ref p3)])) _
    refine XS.aloadN X16.here hx rfl (hb hby own_d9_34) rfl rfl ?_
    show Steps p.tables e below (T16.setTop (mkF m 35 #[.val (.ref a), .val (.int s1), .val (.int o1)] [(.ref a), (.ref p3)])) _
    refine st17 _ ?_
    show Steps p.tables e below (T17.setTop (mkF m 38 #[.val (.ref a), .val (.int s1), .val (.int o1)] [(.int (1 : Int32)), (.ref p3)])) _
    refine X17.ldc2Long hx hown (mvT hZ (hw _ (List.mem_of_getElem? (i := 66) rfl))) (g := (mkF m 38 #[.val (.ref a), .val (.int s1), .val (.int o1)] [(.int (1 : Int32)), (.ref p3)])) rfl (hb hby own_d9_38) _ ?_
    show Steps p.tables e below (T17.setTop (mkF m 41 #[.val (.ref a), .val (.int s1), .val (.int o1)] [(.long (9223372036854775807 : Int64)), (.int (1 : Int32)), (.ref p3)])) _
    refine st19 _ ?_
    show Steps p.tables e below (T19.setTop (mkF m 42 #[.val (.ref a), .val (.int s1), .val (.int o1)] [])) _
    refine XS.aloadN X19.here hx rfl (hb hby own_d9_42) rfl rfl ?_
    show Steps p.tables e below (T19.setTop (mkF m 43 #[.val (.ref a), .val (.int s1), .val (.int o1)] [(.ref a)])) _
    refine st21 _ ?_
    show Steps p.tables e below (T21.setTop (mkF m 46 #[.val (.ref a), .val (.int s1), .val (.int o1)] [(.ref p4)])) _
    refine XS.aloadN X21.here hx rfl (hb hby own_d9_46) rfl rfl ?_
    show Steps p.tables e below (T21.setTop (mkF m 47 #[.val (.ref a), .val (.int s1), .val (.int o1)] [(.ref a), (.ref p4)])) _
    refine st22 _ ?_
    show Steps p.tables e below (T22.setTop (mkF m 50 #[.val (.ref a), .val (.int s1), .val (.int o1)] [(.int (1 : Int32)), (.ref p4)])) _
    refine X22.ldc2Long hx hown (mvT hZ (hw _ (List.mem_of_getElem? (i := 66) rfl))) (g := (mkF m 50 #[.val (.ref a), .val (.int s1), .val (.int o1)] [(.int (1 : Int32)), (.ref p4)])) rfl (hb hby own_d9_50) _ ?_
    show Steps p.tables e below (T22.setTop (mkF m 53 #[.val (.ref a), .val (.int s1), .val (.int o1)] [(.long (9223372036854775807 : Int64)), (.int (1 : Int32)), (.ref p4)])) _
    refine st24 _ ?_
    show Steps p.tables e below (T24.setTop (mkF m 54 #[.val (.ref a), .val (.int s1), .val (.int o1)] [])) _
    refine XS.aloadN X24.here hx rfl (hb hby own_d9_54) rfl rfl ?_
    show Steps p.tables e below (T24.setTop (mkF m 55 #[.val (.ref a), .val (.int s1), .val (.int o1)] [(.ref a)])) _
    refine st26 _ ?_
    show Steps p.tables e below (T26.setTop (mkF m 58 #[.val (.ref a), .val (.int s1), .val (.int o1)] [(.ref p5)])) _
    refine XS.aloadN X26.here hx rfl (hb hby own_d9_58) rfl rfl ?_
    show Steps p.tables e below (T26.setTop (mkF m 59 #[.val (.ref a), .val (.int s1), .val (.int o1)] [(.ref a), (.ref p5)])) _
    refine st27 _ ?_
    show Steps p.tables e below (T27.setTop (mkF m 62 #[.val (.ref a), .val (.int s1), .val (.int o1)] [(.int (1 : Int32)), (.ref p5)])) _
    refine XS.iloadN X27.here hx rfl (hb hby own_d9_62) rfl ?_
    show Steps p.tables e below (T27.setTop (mkF m 63 #[.val (.ref a), .val (.int s1), .val (.int o1)] [(.int s1), (.int (1 : Int32)), (.ref p5)])) _
    refine st29 _ ?_
    show Steps p.tables e below (T29.setTop (mkF m 64 #[.val (.ref a), .val (.int s1), .val (.int o1)] [])) _
    refine XS.aloadN X29.here hx rfl (hb hby own_d9_64) rfl rfl ?_
    show Steps p.tables e below (T29.setTop (mkF m 65 #[.val (.ref a), .val (.int s1), .val (.int o1)] [(.ref a)])) _
    refine st31 _ ?_
    show Steps p.tables e below (T31.setTop (mkF m 68 #[.val (.ref a), .val (.int s1), .val (.int o1)] [(.ref p6)])) _
    refine XS.aloadN X31.here hx rfl (hb hby own_d9_68) rfl rfl ?_
    show Steps p.tables e below (T31.setTop (mkF m 69 #[.val (.ref a), .val (.int s1), .val (.int o1)] [(.ref a), (.ref p6)])) _
    refine st32 _ ?_
    show Steps p.tables e below (T32.setTop (mkF m 72 #[.val (.ref a), .val (.int s1), .val (.int o1)] [(.int (1 : Int32)), (.ref p6)])) _
    refine XS.iloadN X32.here hx rfl (hb hby own_d9_72) rfl ?_
    show Steps p.tables e below (T32.setTop (mkF m 73 #[.val (.ref a), .val (.int s1), .val (.int o1)] [(.int o1), (.int (1 : Int32)), (.ref p6)])) _
    refine st34 _ ?_
    show Steps p.tables e below (T34.setTop (mkF m 74 #[.val (.ref a), .val (.int s1), .val (.int o1)] [])) _
    refine XS.aloadN X34.here hx rfl (hb hby own_d9_74) rfl rfl ?_
    show Steps p.tables e below (T34.setTop (mkF m 75 #[.val (.ref a), .val (.int s1), .val (.int o1)] [(.ref a)])) _
    refine XS.dup X34.here hx rfl (hb hby own_d9_75) rfl rfl ?_
    show Steps p.tables e below (T34.setTop (mkF m 76 #[.val (.ref a), .val (.int s1), .val (.int o1)] [(.ref a), (.ref a)])) _
    refine st36 _ ?_
    show Steps p.tables e below (T36.setTop (mkF m 79 #[.val (.ref a), .val (.int s1), .val (.int o1)] [(.int (1 : Int32)), (.ref a)])) _
    refine XS.dupX1 X36.here hx rfl (hb hby own_d9_79) rfl rfl rfl ?_
    show Steps p.tables e below (T36.setTop (mkF m 80 #[.val (.ref a), .val (.int s1), .val (.int o1)] [(.int (1 : Int32)), (.ref a), (.int (1 : Int32))])) _
    refine XS.iconst X36.here hx rfl (hb hby own_d9_80) ?_
    show Steps p.tables e below (T36.setTop (mkF m 81 #[.val (.ref a), .val (.int s1), .val (.int o1)] [(.int (1 : Int32)), (.int (1 : Int32)), (.ref a), (.int (1 : Int32))])) _
    refine XS.iadd X36.here hx rfl (hb hby own_d9_81) rfl ?_
    show Steps p.tables e below (T36.setTop (mkF m 82 #[.val (.ref a), .val (.int s1), .val (.int o1)] [(.int (2 : Int32)), (.ref a), (.int (1 : Int32))])) _
    refine st37 _ ?_
    show Steps p.tables e below (T37.setTop (mkF m 85 #[.val (.ref a), .val (.int s1), .val (.int o1)] [(.int (1 : Int32))])) _
    exact retI X37 hx Bd.returns (hb hby own_d9_85) hr
  · show own_Q_own_add1 Z a s1 o1 p0 p1 p2 p3 p4 p5 p6 k_0 k_1 k_2 k_3 k_4 k_5 k_6 x0_0 x0_1 x1_0 x1_1 x2_0 x2_1 x3_0 x3_1 x4_0 x4_1 x5_0 x5_1 x6_0 x6_1 h0 n0 _ T37.heap _
    rw [e37]
    exact ⟨rfl, N37, KP, E, F_positives, F_negatives, F_passes, F_firstPositives, F_firstNegatives, F_sharedStateOf, F_ownStateOf, F_count, V0, V1, V2, V3, V4, V5, V6⟩
theorem own_pd3 : parseMethodDescriptor "(I)V" = some ⟨[.int], none⟩ := by decide +kernel
theorem own_d3_0 : decode prog_101_method_2_code 0 = .ok (.aload_n 0, 1) := by decide +kernel
theorem own_d3_1 : decode prog_101_method_2_code 1 = .ok (.getfield 41, 3) := by decide +kernel
theorem own_d3_4 : decode prog_101_method_2_code 4 = .ok (.iconst 1, 1) := by decide +kernel
theorem own_d3_5 : decode prog_101_method_2_code 5 = .ok (.if_icmp .le 34, 3) := by decide +kernel
theorem own_d3_39 : decode prog_101_method_2_code 39 = .ok (.aload_n 0, 1) := by decide +kernel
theorem own_d3_40 : decode prog_101_method_2_code 40 = .ok (.iload_n 1, 1) := by decide +kernel
theorem own_d3_41 : decode prog_101_method_2_code 41 = .ok (.putfield 41, 3) := by decide +kernel
theorem own_d3_44 : decode prog_101_method_2_code 44 = .ok (.aload_n 0, 1) := by decide +kernel
theorem own_d3_45 : decode prog_101_method_2_code 45 = .ok (.iconst 0, 1) := by decide +kernel
theorem own_d3_46 : decode prog_101_method_2_code 46 = .ok (.putfield 45, 3) := by decide +kernel
theorem own_d3_49 : decode prog_101_method_2_code 49 = .ok (.aload_n 0, 1) := by decide +kernel
theorem own_d3_50 : decode prog_101_method_2_code 50 = .ok (.iload_n 1, 1) := by decide +kernel
theorem own_d3_51 : decode prog_101_method_2_code 51 = .ok (.invokevirtual 48, 3) := by decide +kernel
theorem own_d3_54 : decode prog_101_method_2_code 54 = .ok (.iconst 0, 1) := by decide +kernel
theorem own_d3_55 : decode prog_101_method_2_code 55 = .ok (.istore_n 2, 1) := by decide +kernel
theorem own_d3_56 : decode prog_101_method_2_code 56 = .ok (.iload_n 2, 1) := by decide +kernel
theorem own_d3_57 : decode prog_101_method_2_code 57 = .ok (.iload_n 1, 1) := by decide +kernel
theorem own_d3_58 : decode prog_101_method_2_code 58 = .ok (.if_icmp .ge 16, 3) := by decide +kernel
theorem own_d3_61 : decode prog_101_method_2_code 61 = .ok (.aload_n 0, 1) := by decide +kernel
theorem own_d3_62 : decode prog_101_method_2_code 62 = .ok (.iload_n 2, 1) := by decide +kernel
theorem own_d3_63 : decode prog_101_method_2_code 63 = .ok (.iconst 0, 1) := by decide +kernel
theorem own_d3_64 : decode prog_101_method_2_code 64 = .ok (.invokevirtual 54, 3) := by decide +kernel
theorem own_d3_67 : decode prog_101_method_2_code 67 = .ok (.pop, 1) := by decide +kernel
theorem own_d3_68 : decode prog_101_method_2_code 68 = .ok (.iinc 2 1, 3) := by decide +kernel
theorem own_d3_71 : decode prog_101_method_2_code 71 = .ok (.goto (-15), 3) := by decide +kernel
theorem own_d3_74 : decode prog_101_method_2_code 74 = .ok (.return_, 1) := by decide +kernel
theorem own_ef3 (m : MethodId) (x0 : Addr) (x1 : Int32) : entryFrame m #[(.ref x0), (.int x1)] 3 = mkF m 0 #[.val (.ref x0), .val (.int x1), .unset] [] := by first | (simp [entryFrame, mkF, argsToLocals, Value.category]; done) | rfl
def own_Q_own_clear (Z : State) (a : Addr) (p0 : Addr) (p1 : Addr) (p2 : Addr) (p3 : Addr) (p4 : Addr) (p5 : Addr) (p6 : Addr) (p7 : Addr) (k_0 : ClassId) (k_1 : ClassId) (k_2 : ClassId) (k_3 : ClassId) (k_4 : ClassId) (k_5 : ClassId) (k_6 : ClassId) (k_7 : ClassId) (h0 : Heap) (n0 : Nat) (v : Option Value) (h : Heap) (L : List Loc) : Prop := ∃ (q0 q1 q2 q3 q4 : Addr) (j0 j1 j2 j3 j4 : ClassId), v = none ∧ Fr n0 L ∧ Keep h0 h [a] ∧ Exa Z h a "com/example/synclattice/synclattice/sync/StatePairs" ∧ Fld Z h a "com/example/synclattice/synclattice/sync/StatePairs" "positives" "[J" (.ref q0) ∧ Fld Z h a "com/example/synclattice/synclattice/sync/StatePairs" "negatives" "[J" (.ref q1) ∧ Fld Z h a "com/example/synclattice/synclattice/sync/StatePairs" "passes" "[J" (.ref q2) ∧ Fld Z h a "com/example/synclattice/synclattice/sync/StatePairs" "firstPositives" "[J" (.ref q3) ∧ Fld Z h a "com/example/synclattice/synclattice/sync/StatePairs" "firstNegatives" "[J" (.ref q4) ∧ Fld Z h a "com/example/synclattice/synclattice/sync/StatePairs" "count" "I" (.int (2 : Int32)) ∧ Arv Z h q0 j0 .long (2 : Int32) [(.long (0 : Int64)), (.long (0 : Int64))] (.long (0 : Int64)) ∧ Arv Z h q1 j1 .long (2 : Int32) [(.long (0 : Int64)), (.long (0 : Int64))] (.long (0 : Int64)) ∧ Arv Z h q2 j2 .long (2 : Int32) [(.long (0 : Int64)), (.long (0 : Int64))] (.long (0 : Int64)) ∧ Arv Z h q3 j3 .long (2 : Int32) [(.long (9223372036854775807 : Int64)), (.long (9223372036854775807 : Int64))] (.long (0 : Int64)) ∧ Arv Z h q4 j4 .long (2 : Int32) [(.long (9223372036854775807 : Int64)), (.long (9223372036854775807 : Int64))] (.long (0 : Int64)) ∧ q0 ≠ q1 ∧ q0 ≠ q2 ∧ q0 ≠ q3 ∧ q0 ≠ q4 ∧ q1 ≠ q2 ∧ q1 ≠ q3 ∧ q1 ≠ q4 ∧ q2 ≠ q3 ∧ q2 ≠ q4 ∧ q3 ≠ q4 ∧ h0.size ≤ q0 ∧ h0.size ≤ q1 ∧ h0.size ≤ q2 ∧ h0.size ≤ q3 ∧ h0.size ≤ q4
set_option maxRecDepth 65536 in
set_option maxHeartbeats 40000000 in
theorem own_clear (l : Launch) (Z : State) (a0 : Array Value) (hw : ∀ d ∈ tables_1, d.before a0 Z = true) (ws : List Jvm.Cond) (a : Addr) (p0 : Addr) (p1 : Addr) (p2 : Addr) (p3 : Addr) (p4 : Addr) (p5 : Addr) (p6 : Addr) (p7 : Addr) (k_0 : ClassId) (k_1 : ClassId) (k_2 : ClassId) (k_3 : ClassId) (k_4 : ClassId) (k_5 : ClassId) (k_6 : ClassId) (k_7 : ClassId) (h0 : Heap) (n0 : Nat) (Z0 : n0 ≤ h0.size) (E : Exa Z h0 a "com/example/synclattice/synclattice/sync/StatePairs") (F_positives : Fld Z h0 a "com/example/synclattice/synclattice/sync/StatePairs" "positives" "[J" (.ref p0)) (F_negatives : Fld Z h0 a "com/example/synclattice/synclattice/sync/StatePairs" "negatives" "[J" (.ref p1)) (F_passes : Fld Z h0 a "com/example/synclattice/synclattice/sync/StatePairs" "passes" "[J" (.ref p2)) (F_firstPositives : Fld Z h0 a "com/example/synclattice/synclattice/sync/StatePairs" "firstPositives" "[J" (.ref p3)) (F_firstNegatives : Fld Z h0 a "com/example/synclattice/synclattice/sync/StatePairs" "firstNegatives" "[J" (.ref p4)) (F_sharedStateOf : Fld Z h0 a "com/example/synclattice/synclattice/sync/StatePairs" "sharedStateOf" "[I" (.ref p5)) (F_ownStateOf : Fld Z h0 a "com/example/synclattice/synclattice/sync/StatePairs" "ownStateOf" "[I" (.ref p6)) (F_slotOf : Fld Z h0 a "com/example/synclattice/synclattice/sync/StatePairs" "slotOf" "[I" (.ref p7)) (F_count : Fld Z h0 a "com/example/synclattice/synclattice/sync/StatePairs" "count" "I" (.int (0 : Int32))) (V0 : Arv Z h0 p0 k_0 .long (0 : Int32) [] (.long (0 : Int64))) (V1 : Arv Z h0 p1 k_1 .long (0 : Int32) [] (.long (0 : Int64))) (V2 : Arv Z h0 p2 k_2 .long (0 : Int32) [] (.long (0 : Int64))) (V3 : Arv Z h0 p3 k_3 .long (0 : Int32) [] (.long (0 : Int64))) (V4 : Arv Z h0 p4 k_4 .long (0 : Int32) [] (.long (0 : Int64))) (V5 : Arv Z h0 p5 k_5 .int (0 : Int32) [] (.int (0 : Int32))) (V6 : Arv Z h0 p6 k_6 .int (0 : Int32) [] (.int (0 : Int32))) (V7 : Arv Z h0 p7 k_7 .int (0 : Int32) [] (.int (0 : Int32))) (g : n0 ≤ a) (F_sharedStates : Fld Z h0 a "com/example/synclattice/synclattice/sync/StatePairs" "sharedStates" "I" (.int (0 : Int32))) :
    MetFree l (⟨"com/example/synclattice/synclattice/sync/StatePairs", "clear", "(I)V"⟩ : MethodName) (head1 (Jvm.Cond.code (⟨"com/example/synclattice/synclattice/sync/StatePairs", "clear", "(I)V"⟩ : MethodName) prog_101_method_2_code 3 none :: ws) ({ frames := 3, cells := 8, slots := 16, locals := 47 } : Room)) (fun as_ U => as_ = #[(.ref a), (.int (2 : Int32))] ∧ Z.Warmed39 U.vm ∧ U.heap = h0) (fun _ _ _ _ _ => True) (fun _ U o U' => ∃ v L, o = .returned v ∧ own_Q_own_clear Z a p0 p1 p2 p3 p4 p5 p6 p7 k_0 k_1 k_2 k_3 k_4 k_5 k_6 k_7 h0 n0 v U'.heap L ∧ FrameEnd U o U' L ({ frames := 3, cells := 8, slots := 16, locals := 47 } : Room).cells ({ frames := 3, cells := 8, slots := 16, locals := 47 } : Room).slots) := by
  refine MetFree.of_bodySF (plainFor_of_name own_pn0) hisR ?_
  intro p e s m args below meth c s₁ Bd hml0 hP hK
  obtain ⟨rfl, hZ, hh⟩ := hP
  have hx := Bd.exec
  have hby := Bd.bytes
  have hml : c.maxLocals = 3 := hml0
  have hown : s.vm.findClass "com/example/synclattice/synclattice/sync/StatePairs" = some m.cls := findClass_of_methodNamed Bd.named
  have hnm := (name_of_methodNamed Bd.named Bd.method).1
  have X0 : Stand p l e ({ frames := 3, cells := 8, slots := 16, locals := 47 } : Room) s m #[(.ref a), (.int (2 : Int32))] below meth c s₁ [] 0 0 := Stand.of_body Bd
  have e0 : s₁.heap = h0 := by rw [← hh, Bd.state]; rfl
  have N0 := Fr.nil n0
  have pre0 : ∀ t, Steps p.tables e below (s₁.setTop (mkF m 0 #[.val (.ref a), .val (.int (2 : Int32)), .unset] [])) t → Steps p.tables e below (s₁.setTop (entryFrame m #[(.ref a), (.int (2 : Int32))] 3)) t := fun t k => castTop (own_ef3 m a (2 : Int32)) k
  have KP := Keep.refl h0 ([a] : List Addr)
  obtain ⟨T1, X1, e1, st1⟩ := getF X0 hx hZ hown (host := "") (Or.inl (hw _ (List.mem_of_getElem? (i := 36) rfl))) Via.refl e0 F_sharedStates (g := (mkF m 1 #[.val (.ref a), .val (.int (2 : Int32)), .unset] [(.ref a)])) rfl rfl (hb hby own_d3_1)
  obtain ⟨T2, h2, X2, e2, W2, st2⟩ := putF X1 hx hZ hown (host := "") (Or.inl (hw _ (List.mem_of_getElem? (i := 36) rfl))) Via.refl e1 F_sharedStates E (Or.inl (hw _ (List.mem_of_getElem? (i := 37) rfl))) (hw _ (List.mem_of_getElem? (i := 1) rfl)) (ty := .int) (by decide) rfl rfl (g := (mkF m 41 #[.val (.ref a), .val (.int (2 : Int32)), .unset] [(.int (2 : Int32)), (.ref a)])) rfl rfl (hb hby own_d3_41)
  have ne_a_p0 : a ≠ p0 := Exa.neArv E V0 (hw _ (List.mem_of_getElem? (i := 1) rfl))
  have ne_a_p1 : a ≠ p1 := Exa.neArv E V1 (hw _ (List.mem_of_getElem? (i := 1) rfl))
  have ne_a_p2 : a ≠ p2 := Exa.neArv E V2 (hw _ (List.mem_of_getElem? (i := 1) rfl))
  have ne_a_p3 : a ≠ p3 := Exa.neArv E V3 (hw _ (List.mem_of_getElem? (i := 1) rfl))
  have ne_a_p4 : a ≠ p4 := Exa.neArv E V4 (hw _ (List.mem_of_getElem? (i := 1) rfl))
  have ne_a_p5 : a ≠ p5 := Exa.neArv E V5 (hw _ (List.mem_of_getElem? (i := 1) rfl))
  have ne_a_p6 : a ≠ p6 := Exa.neArv E V6 (hw _ (List.mem_of_getElem? (i := 1) rfl))
  have ne_a_p7 : a ≠ p7 := Exa.neArv E V7 (hw _ (List.mem_of_getElem? (i := 1) rfl))
  have E := E.wr W2
  have F_positives := F_positives.other W2 (Or.inr (slot_ne (Or.inl (hw _ (List.mem_of_getElem? (i := 11) rfl))) (Or.inl (hw _ (List.mem_of_getElem? (i := 37) rfl))) (by decide) (t := (.array .long)) (t' := .int) (by decide) (by decide)))
  have V0 := V0.other W2 (Ne.symm ne_a_p0)
  have F_negatives := F_negatives.other W2 (Or.inr (slot_ne (Or.inl (hw _ (List.mem_of_getElem? (i := 13) rfl))) (Or.inl (hw _ (List.mem_of_getElem? (i := 37) rfl))) (by decide) (t := (.array .long)) (t' := .int) (by decide) (by decide)))
  have V1 := V1.other W2 (Ne.symm ne_a_p1)
  have F_passes := F_passes.other W2 (Or.inr (slot_ne (Or.inl (hw _ (List.mem_of_getElem? (i := 15) rfl))) (Or.inl (hw _ (List.mem_of_getElem? (i := 37) rfl))) (by decide) (t := (.array .long)) (t' := .int) (by decide) (by decide)))
  have V2 := V2.other W2 (Ne.symm ne_a_p2)
  have F_firstPositives := F_firstPositives.other W2 (Or.inr (slot_ne (Or.inl (hw _ (List.mem_of_getElem? (i := 17) rfl))) (Or.inl (hw _ (List.mem_of_getElem? (i := 37) rfl))) (by decide) (t := (.array .long)) (t' := .int) (by decide) (by decide)))
  have V3 := V3.other W2 (Ne.symm ne_a_p3)
  have F_firstNegatives := F_firstNegatives.other W2 (Or.inr (slot_ne (Or.inl (hw _ (List.mem_of_getElem? (i := 19) rfl))) (Or.inl (hw _ (List.mem_of_getElem? (i := 37) rfl))) (by decide) (t := (.array .long)) (t' := .int) (by decide) (by decide)))
  have V4 := V4.other W2 (Ne.symm ne_a_p4)
  have F_sharedStateOf := F_sharedStateOf.other W2 (Or.inr (slot_ne (Or.inl (hw _ (List.mem_of_getElem? (i := 22) rfl))) (Or.inl (hw _ (List.mem_of_getElem? (i := 37) rfl))) (by decide) (t := (.array .int)) (t' := .int) (by decide) (by decide)))
  have V5 := V5.other W2 (Ne.symm ne_a_p5)
  have F_ownStateOf := F_ownStateOf.other W2 (Or.inr (slot_ne (Or.inl (hw _ (List.mem_of_getElem? (i := 24) rfl))) (Or.inl (hw _ (List.mem_of_getElem? (i := 37) rfl))) (by decide) (t := (.array .int)) (t' := .int) (by decide) (by decide)))
  have V6 := V6.other W2 (Ne.symm ne_a_p6)
  have F_slotOf := F_slotOf.other W2 (Or.inr (slot_ne (Or.inl (hw _ (List.mem_of_getElem? (i := 30) rfl))) (Or.inl (hw _ (List.mem_of_getElem? (i := 37) rfl))) (by decide) (t := (.array .int)) (t' := .int) (by decide) (by decide)))
  have V7 := V7.other W2 (Ne.symm ne_a_p7)
  have F_count := F_count.other W2 (Or.inr (slot_ne (Or.inl (hw _ (List.mem_of_getElem? (i := 39) rfl))) (Or.inl (hw _ (List.mem_of_getElem? (i := 37) rfl))) (by decide) (t := .int) (t' := .int) (by decide) (by decide)))
  have Z3 : n0 ≤ h2.size := Nat.le_trans Z0 (Keep.of_wr W2).1
  have KP := KP.wr W2 (Or.inl (List.mem_of_getElem? (i := 0) rfl))
  have F_sharedStates := F_sharedStates.same W2
  have N2 := Fr.snoc X2 N0 g
  obtain ⟨T4, h4, X4, e4, W4, st4⟩ := putF X2 hx hZ hown (host := "") (Or.inl (hw _ (List.mem_of_getElem? (i := 38) rfl))) Via.refl e2 F_count E (Or.inl (hw _ (List.mem_of_getElem? (i := 39) rfl))) (hw _ (List.mem_of_getElem? (i := 1) rfl)) (ty := .int) (by decide) rfl rfl (g := (mkF m 46 #[.val (.ref a), .val (.int (2 : Int32)), .unset] [(.int (0 : Int32)), (.ref a)])) rfl rfl (hb hby own_d3_46)
  have E := E.wr W4
  have F_positives := F_positives.other W4 (Or.inr (slot_ne (Or.inl (hw _ (List.mem_of_getElem? (i := 11) rfl))) (Or.inl (hw _ (List.mem_of_getElem? (i := 39) rfl))) (by decide) (t := (.array .long)) (t' := .int) (by decide) (by decide)))
  have V0 := V0.other W4 (Ne.symm ne_a_p0)
  have F_negatives := F_negatives.other W4 (Or.inr (slot_ne (Or.inl (hw _ (List.mem_of_getElem? (i := 13) rfl))) (Or.inl (hw _ (List.mem_of_getElem? (i := 39) rfl))) (by decide) (t := (.array .long)) (t' := .int) (by decide) (by decide)))
  have V1 := V1.other W4 (Ne.symm ne_a_p1)
  have F_passes := F_passes.other W4 (Or.inr (slot_ne (Or.inl (hw _ (List.mem_of_getElem? (i := 15) rfl))) (Or.inl (hw _ (List.mem_of_getElem? (i := 39) rfl))) (by decide) (t := (.array .long)) (t' := .int) (by decide) (by decide)))
  have V2 := V2.other W4 (Ne.symm ne_a_p2)
  have F_firstPositives := F_firstPositives.other W4 (Or.inr (slot_ne (Or.inl (hw _ (List.mem_of_getElem? (i := 17) rfl))) (Or.inl (hw _ (List.mem_of_getElem? (i := 39) rfl))) (by decide) (t := (.array .long)) (t' := .int) (by decide) (by decide)))
  have V3 := V3.other W4 (Ne.symm ne_a_p3)
  have F_firstNegatives := F_firstNegatives.other W4 (Or.inr (slot_ne (Or.inl (hw _ (List.mem_of_getElem? (i := 19) rfl))) (Or.inl (hw _ (List.mem_of_getElem? (i := 39) rfl))) (by decide) (t := (.array .long)) (t' := .int) (by decide) (by decide)))
  have V4 := V4.other W4 (Ne.symm ne_a_p4)
  have F_sharedStateOf := F_sharedStateOf.other W4 (Or.inr (slot_ne (Or.inl (hw _ (List.mem_of_getElem? (i := 22) rfl))) (Or.inl (hw _ (List.mem_of_getElem? (i := 39) rfl))) (by decide) (t := (.array .int)) (t' := .int) (by decide) (by decide)))
  have V5 := V5.other W4 (Ne.symm ne_a_p5)
  have F_ownStateOf := F_ownStateOf.other W4 (Or.inr (slot_ne (Or.inl (hw _ (List.mem_of_getElem? (i := 24) rfl))) (Or.inl (hw _ (List.mem_of_getElem? (i := 39) rfl))) (by decide) (t := (.array .int)) (t' := .int) (by decide) (by decide)))
  have V6 := V6.other W4 (Ne.symm ne_a_p6)
  have F_slotOf := F_slotOf.other W4 (Or.inr (slot_ne (Or.inl (hw _ (List.mem_of_getElem? (i := 30) rfl))) (Or.inl (hw _ (List.mem_of_getElem? (i := 39) rfl))) (by decide) (t := (.array .int)) (t' := .int) (by decide) (by decide)))
  have V7 := V7.other W4 (Ne.symm ne_a_p7)
  have F_sharedStates := F_sharedStates.other W4 (Or.inr (slot_ne (Or.inl (hw _ (List.mem_of_getElem? (i := 37) rfl))) (Or.inl (hw _ (List.mem_of_getElem? (i := 39) rfl))) (by decide) (t := .int) (t' := .int) (by decide) (by decide)))
  have Z5 : n0 ≤ h4.size := Nat.le_trans Z3 (Keep.of_wr W4).1
  have KP := KP.wr W4 (Or.inl (List.mem_of_getElem? (i := 0) rfl))
  have F_count := F_count.same W4
  have N4 := Fr.snoc X4 N2 g
  obtain ⟨cq6, q6, q6'⟩ := E.cell
  obtain ⟨_, _, ⟨T6, L6, k6, n6⟩, -, X6, ⟨Lc6, hQ6, l6, y6, z6⟩, st6⟩ := X4.privateBack hx (y := (⟨"com/example/synclattice/synclattice/sync/StatePairs", "fit", "(I)V"⟩ : MethodName)) hown (mvT hZ (hw _ (List.mem_of_getElem? (i := 40) rfl))) (mvT hZ (hw _ (List.mem_of_getElem? (i := 41) rfl))) (own_selP (mvT hZ (hw _ (List.mem_of_getElem? (i := 1) rfl))) (mvP hZ (hw _ (List.mem_of_getElem? (i := 42) rfl))) (mvT hZ (hw _ (List.mem_of_getElem? (i := 41) rfl))) (by decide)) (Cond.privateMethod_at (mvP hZ (hw _ (List.mem_of_getElem? (i := 42) rfl)) (args := #[]))) (mvT hZ (hw _ (List.mem_of_getElem? (i := 43) rfl))) (by decide) (backOf (W := 0) (own_fit l Z a0 hw [] a p0 p1 p2 p3 p4 p5 p6 p7 k_0 k_1 k_2 k_3 k_4 k_5 k_6 k_7 h4 n0 Z5 E F_positives F_negatives F_passes F_firstPositives F_firstNegatives F_sharedStateOf F_ownStateOf F_slotOf F_count V0 V1 V2 V3 V4 V5 V6 V7 g) hZ (hw _ (List.mem_of_getElem? (i := 43) rfl)) (hw _ (List.mem_of_getElem? (i := 2) rfl)) (by decide) (by decide)) (g := (mkF m 51 #[.val (.ref a), .val (.int (2 : Int32)), .unset] [(.int (2 : Int32)), (.ref a)])) rfl (by rw [hml]; rfl) (Steps.refl _) (a := a) (by rw [e4]; exact q6) q6' (argsL := [(.int (2 : Int32))]) (rest := []) (lenOf own_pd3 rfl) rfl (by show 2 * 0 + _ ≤ _; exact Nat.le_of_eq rfl) (hb hby own_d3_51) (fun _ _ => ⟨rfl, e4, (by decide : 0 + 8 ≤ _), (by decide : 0 + 16 ≤ _)⟩)
  dsimp only [Pt.U, Pt.locs, Pt.cells, Pt.slots] at X6 l6 y6 z6 st6 hQ6
  subst l6 y6 z6
  obtain ⟨b6_0, b6_1, b6_2, b6_3, b6_4, b6_5, b6_6, j6_0, j6_1, j6_2, j6_3, j6_4, j6_5, j6_6, rfl, N6q, K6, Ee6, F6_0, F6_1, F6_2, F6_3, F6_4, F6_5, F6_6, Fc6, V6_0, V6_1, V6_2, V6_3, V6_4, V6_5, V6_6, m6_0_1, m6_0_2, m6_0_3, m6_0_4, m6_0_5, m6_0_6, m6_1_2, m6_1_3, m6_1_4, m6_1_5, m6_1_6, m6_2_3, m6_2_4, m6_2_5, m6_2_6, m6_3_4, m6_3_5, m6_3_6, m6_4_5, m6_4_6, m6_5_6, sz6_0, sz6_1, sz6_2, sz6_3, sz6_4, sz6_5, sz6_6⟩ := hQ6
  have N6 := Fr.app N4 N6q
  have g_b6_0 : n0 ≤ b6_0 := Nat.le_trans Z5 sz6_0
  have sz_b6_0 : h0.size ≤ b6_0 := Nat.le_trans KP.1 sz6_0
  have ne_a_b6_0 : a ≠ b6_0 := Nat.ne_of_lt (Nat.lt_of_lt_of_le E.lt sz6_0)
  have ne_p0_b6_0 : p0 ≠ b6_0 := Nat.ne_of_lt (Nat.lt_of_lt_of_le V0.lt sz6_0)
  have ne_p1_b6_0 : p1 ≠ b6_0 := Nat.ne_of_lt (Nat.lt_of_lt_of_le V1.lt sz6_0)
  have ne_p2_b6_0 : p2 ≠ b6_0 := Nat.ne_of_lt (Nat.lt_of_lt_of_le V2.lt sz6_0)
  have ne_p3_b6_0 : p3 ≠ b6_0 := Nat.ne_of_lt (Nat.lt_of_lt_of_le V3.lt sz6_0)
  have ne_p4_b6_0 : p4 ≠ b6_0 := Nat.ne_of_lt (Nat.lt_of_lt_of_le V4.lt sz6_0)
  have ne_p5_b6_0 : p5 ≠ b6_0 := Nat.ne_of_lt (Nat.lt_of_lt_of_le V5.lt sz6_0)
  have ne_p6_b6_0 : p6 ≠ b6_0 := Nat.ne_of_lt (Nat.lt_of_lt_of_le V6.lt sz6_0)
  have ne_p7_b6_0 : p7 ≠ b6_0 := Nat.ne_of_lt (Nat.lt_of_lt_of_le V7.lt sz6_0)
  have g_b6_1 : n0 ≤ b6_1 := Nat.le_trans Z5 sz6_1
  have sz_b6_1 : h0.size ≤ b6_1 := Nat.le_trans KP.1 sz6_1
  have ne_a_b6_1 : a ≠ b6_1 := Nat.ne_of_lt (Nat.lt_of_lt_of_le E.lt sz6_1)
  have ne_p0_b6_1 : p0 ≠ b6_1 := Nat.ne_of_lt (Nat.lt_of_lt_of_le V0.lt sz6_1)
  have ne_p1_b6_1 : p1 ≠ b6_1 := Nat.ne_of_lt (Nat.lt_of_lt_of_le V1.lt sz6_1)
  have ne_p2_b6_1 : p2 ≠ b6_1 := Nat.ne_of_lt (Nat.lt_of_lt_of_le V2.lt sz6_1)
  have ne_p3_b6_1 : p3 ≠ b6_1 := Nat.ne_of_lt (Nat.lt_of_lt_of_le V3.lt sz6_1)
  have ne_p4_b6_1 : p4 ≠ b6_1 := Nat.ne_of_lt (Nat.lt_of_lt_of_le V4.lt sz6_1)
  have ne_p5_b6_1 : p5 ≠ b6_1 := Nat.ne_of_lt (Nat.lt_of_lt_of_le V5.lt sz6_1)
  have ne_p6_b6_1 : p6 ≠ b6_1 := Nat.ne_of_lt (Nat.lt_of_lt_of_le V6.lt sz6_1)
  have ne_p7_b6_1 : p7 ≠ b6_1 := Nat.ne_of_lt (Nat.lt_of_lt_of_le V7.lt sz6_1)
  have g_b6_2 : n0 ≤ b6_2 := Nat.le_trans Z5 sz6_2
  have sz_b6_2 : h0.size ≤ b6_2 := Nat.le_trans KP.1 sz6_2
  have ne_a_b6_2 : a ≠ b6_2 := Nat.ne_of_lt (Nat.lt_of_lt_of_le E.lt sz6_2)
  have ne_p0_b6_2 : p0 ≠ b6_2 := Nat.ne_of_lt (Nat.lt_of_lt_of_le V0.lt sz6_2)
  have ne_p1_b6_2 : p1 ≠ b6_2 := Nat.ne_of_lt (Nat.lt_of_lt_of_le V1.lt sz6_2)
  have ne_p2_b6_2 : p2 ≠ b6_2 := Nat.ne_of_lt (Nat.lt_of_lt_of_le V2.lt sz6_2)
  have ne_p3_b6_2 : p3 ≠ b6_2 := Nat.ne_of_lt (Nat.lt_of_lt_of_le V3.lt sz6_2)
  have ne_p4_b6_2 : p4 ≠ b6_2 := Nat.ne_of_lt (Nat.lt_of_lt_of_le V4.lt sz6_2)
  have ne_p5_b6_2 : p5 ≠ b6_2 := Nat.ne_of_lt (Nat.lt_of_lt_of_le V5.lt sz6_2)
  have ne_p6_b6_2 : p6 ≠ b6_2 := Nat.ne_of_lt (Nat.lt_of_lt_of_le V6.lt sz6_2)
  have ne_p7_b6_2 : p7 ≠ b6_2 := Nat.ne_of_lt (Nat.lt_of_lt_of_le V7.lt sz6_2)
  have g_b6_3 : n0 ≤ b6_3 := Nat.le_trans Z5 sz6_3
  have sz_b6_3 : h0.size ≤ b6_3 := Nat.le_trans KP.1 sz6_3
  have ne_a_b6_3 : a ≠ b6_3 := Nat.ne_of_lt (Nat.lt_of_lt_of_le E.lt sz6_3)
  have ne_p0_b6_3 : p0 ≠ b6_3 := Nat.ne_of_lt (Nat.lt_of_lt_of_le V0.lt sz6_3)
  have ne_p1_b6_3 : p1 ≠ b6_3 := Nat.ne_of_lt (Nat.lt_of_lt_of_le V1.lt sz6_3)
  have ne_p2_b6_3 : p2 ≠ b6_3 := Nat.ne_of_lt (Nat.lt_of_lt_of_le V2.lt sz6_3)
  have ne_p3_b6_3 : p3 ≠ b6_3 := Nat.ne_of_lt (Nat.lt_of_lt_of_le V3.lt sz6_3)
  have ne_p4_b6_3 : p4 ≠ b6_3 := Nat.ne_of_lt (Nat.lt_of_lt_of_le V4.lt sz6_3)
  have ne_p5_b6_3 : p5 ≠ b6_3 := Nat.ne_of_lt (Nat.lt_of_lt_of_le V5.lt sz6_3)
  have ne_p6_b6_3 : p6 ≠ b6_3 := Nat.ne_of_lt (Nat.lt_of_lt_of_le V6.lt sz6_3)
  have ne_p7_b6_3 : p7 ≠ b6_3 := Nat.ne_of_lt (Nat.lt_of_lt_of_le V7.lt sz6_3)
  have g_b6_4 : n0 ≤ b6_4 := Nat.le_trans Z5 sz6_4
  have sz_b6_4 : h0.size ≤ b6_4 := Nat.le_trans KP.1 sz6_4
  have ne_a_b6_4 : a ≠ b6_4 := Nat.ne_of_lt (Nat.lt_of_lt_of_le E.lt sz6_4)
  have ne_p0_b6_4 : p0 ≠ b6_4 := Nat.ne_of_lt (Nat.lt_of_lt_of_le V0.lt sz6_4)
  have ne_p1_b6_4 : p1 ≠ b6_4 := Nat.ne_of_lt (Nat.lt_of_lt_of_le V1.lt sz6_4)
  have ne_p2_b6_4 : p2 ≠ b6_4 := Nat.ne_of_lt (Nat.lt_of_lt_of_le V2.lt sz6_4)
  have ne_p3_b6_4 : p3 ≠ b6_4 := Nat.ne_of_lt (Nat.lt_of_lt_of_le V3.lt sz6_4)
  have ne_p4_b6_4 : p4 ≠ b6_4 := Nat.ne_of_lt (Nat.lt_of_lt_of_le V4.lt sz6_4)
  have ne_p5_b6_4 : p5 ≠ b6_4 := Nat.ne_of_lt (Nat.lt_of_lt_of_le V5.lt sz6_4)
  have ne_p6_b6_4 : p6 ≠ b6_4 := Nat.ne_of_lt (Nat.lt_of_lt_of_le V6.lt sz6_4)
  have ne_p7_b6_4 : p7 ≠ b6_4 := Nat.ne_of_lt (Nat.lt_of_lt_of_le V7.lt sz6_4)
  have g_b6_5 : n0 ≤ b6_5 := Nat.le_trans Z5 sz6_5
  have sz_b6_5 : h0.size ≤ b6_5 := Nat.le_trans KP.1 sz6_5
  have ne_a_b6_5 : a ≠ b6_5 := Nat.ne_of_lt (Nat.lt_of_lt_of_le E.lt sz6_5)
  have ne_p0_b6_5 : p0 ≠ b6_5 := Nat.ne_of_lt (Nat.lt_of_lt_of_le V0.lt sz6_5)
  have ne_p1_b6_5 : p1 ≠ b6_5 := Nat.ne_of_lt (Nat.lt_of_lt_of_le V1.lt sz6_5)
  have ne_p2_b6_5 : p2 ≠ b6_5 := Nat.ne_of_lt (Nat.lt_of_lt_of_le V2.lt sz6_5)
  have ne_p3_b6_5 : p3 ≠ b6_5 := Nat.ne_of_lt (Nat.lt_of_lt_of_le V3.lt sz6_5)
  have ne_p4_b6_5 : p4 ≠ b6_5 := Nat.ne_of_lt (Nat.lt_of_lt_of_le V4.lt sz6_5)
  have ne_p5_b6_5 : p5 ≠ b6_5 := Nat.ne_of_lt (Nat.lt_of_lt_of_le V5.lt sz6_5)
  have ne_p6_b6_5 : p6 ≠ b6_5 := Nat.ne_of_lt (Nat.lt_of_lt_of_le V6.lt sz6_5)
  have ne_p7_b6_5 : p7 ≠ b6_5 := Nat.ne_of_lt (Nat.lt_of_lt_of_le V7.lt sz6_5)
  have g_b6_6 : n0 ≤ b6_6 := Nat.le_trans Z5 sz6_6
  have sz_b6_6 : h0.size ≤ b6_6 := Nat.le_trans KP.1 sz6_6
  have ne_a_b6_6 : a ≠ b6_6 := Nat.ne_of_lt (Nat.lt_of_lt_of_le E.lt sz6_6)
  have ne_p0_b6_6 : p0 ≠ b6_6 := Nat.ne_of_lt (Nat.lt_of_lt_of_le V0.lt sz6_6)
  have ne_p1_b6_6 : p1 ≠ b6_6 := Nat.ne_of_lt (Nat.lt_of_lt_of_le V1.lt sz6_6)
  have ne_p2_b6_6 : p2 ≠ b6_6 := Nat.ne_of_lt (Nat.lt_of_lt_of_le V2.lt sz6_6)
  have ne_p3_b6_6 : p3 ≠ b6_6 := Nat.ne_of_lt (Nat.lt_of_lt_of_le V3.lt sz6_6)
  have ne_p4_b6_6 : p4 ≠ b6_6 := Nat.ne_of_lt (Nat.lt_of_lt_of_le V4.lt sz6_6)
  have ne_p5_b6_6 : p5 ≠ b6_6 := Nat.ne_of_lt (Nat.lt_of_lt_of_le V5.lt sz6_6)
  have ne_p6_b6_6 : p6 ≠ b6_6 := Nat.ne_of_lt (Nat.lt_of_lt_of_le V6.lt sz6_6)
  have ne_p7_b6_6 : p7 ≠ b6_6 := Nat.ne_of_lt (Nat.lt_of_lt_of_le V7.lt sz6_6)
  have E := E.keep K6
  have V0 := V0.keep K6 (ninS (Ne.symm ne_a_p0) nin0)
  have V1 := V1.keep K6 (ninS (Ne.symm ne_a_p1) nin0)
  have V2 := V2.keep K6 (ninS (Ne.symm ne_a_p2) nin0)
  have V3 := V3.keep K6 (ninS (Ne.symm ne_a_p3) nin0)
  have V4 := V4.keep K6 (ninS (Ne.symm ne_a_p4) nin0)
  have V5 := V5.keep K6 (ninS (Ne.symm ne_a_p5) nin0)
  have V6 := V6.keep K6 (ninS (Ne.symm ne_a_p6) nin0)
  have V7 := V7.keep K6 (ninS (Ne.symm ne_a_p7) nin0)
  have Z7 := Nat.le_trans Z5 K6.1
  have KP := KP.trans K6 (allS (Or.inl (List.mem_of_getElem? (i := 0) rfl)) all0)
  obtain ⟨cq8, q8, q8'⟩ := Ee6.cell
  obtain ⟨_, _, ⟨T8, L8, k8, n8⟩, -, X8, ⟨Lc8, hQ8, l8, y8, z8⟩, st8⟩ := X6.privateBack hx (y := (⟨"com/example/synclattice/synclattice/sync/StatePairs", "add", "(II)I"⟩ : MethodName)) hown (mvT hZ (hw _ (List.mem_of_getElem? (i := 62) rfl))) (mvT hZ (hw _ (List.mem_of_getElem? (i := 63) rfl))) (own_selP (mvT hZ (hw _ (List.mem_of_getElem? (i := 1) rfl))) (mvP hZ (hw _ (List.mem_of_getElem? (i := 64) rfl))) (mvT hZ (hw _ (List.mem_of_getElem? (i := 63) rfl))) (by decide)) (Cond.privateMethod_at (mvP hZ (hw _ (List.mem_of_getElem? (i := 64) rfl)) (args := #[]))) (mvT hZ (hw _ (List.mem_of_getElem? (i := 65) rfl))) (by decide) (backOf (W := 0) (own_add0 l Z a0 hw [] a (0 : Int32) (0 : Int32) b6_0 b6_1 b6_2 b6_3 b6_4 b6_5 b6_6 j6_0 j6_1 j6_2 j6_3 j6_4 j6_5 j6_6 (0 : Int64) (0 : Int64) (0 : Int64) (0 : Int64) (0 : Int64) (0 : Int64) (0 : Int64) (0 : Int64) (0 : Int64) (0 : Int64) (0 : Int32) (0 : Int32) (0 : Int32) (0 : Int32) T6.heap n0 Z7 Ee6 F6_0 F6_1 F6_2 F6_3 F6_4 F6_5 F6_6 Fc6 V6_0 V6_1 V6_2 V6_3 V6_4 V6_5 V6_6 g g_b6_0 g_b6_1 g_b6_2 g_b6_3 g_b6_4 g_b6_5 g_b6_6 m6_0_1 m6_0_2 m6_0_3 m6_0_4 m6_0_5 m6_0_6 m6_1_2 m6_1_3 m6_1_4 m6_1_5 m6_1_6 m6_2_3 m6_2_4 m6_2_5 m6_2_6 m6_3_4 m6_3_5 m6_3_6 m6_4_5 m6_4_6 m6_5_6) hZ (hw _ (List.mem_of_getElem? (i := 65) rfl)) (hw _ (List.mem_of_getElem? (i := 2) rfl)) (by decide) (by decide)) (g := (mkF m 64 #[.val (.ref a), .val (.int (2 : Int32)), .val (.int (0 : Int32))] [(.int (0 : Int32)), (.int (0 : Int32)), (.ref a)])) rfl (by rw [hml]; rfl) (Steps.refl _) (a := a) q8 q8' (argsL := [(.int (0 : Int32)), (.int (0 : Int32))]) (rest := []) (lenOf own_pd0 rfl) rfl (by show 2 * 0 + _ ≤ _; exact Nat.le_of_eq rfl) (hb hby own_d3_64) (fun _ _ => ⟨rfl, rfl, (by decide : 8 + 0 ≤ _), (by decide : 16 + 0 ≤ _)⟩)
  dsimp only [Pt.U, Pt.locs, Pt.cells, Pt.slots] at X8 l8 y8 z8 st8 hQ8
  subst l8 y8 z8
  obtain ⟨rfl, N8q, K8, Ee8, F8_0, F8_1, F8_2, F8_3, F8_4, F8_5, F8_6, Fc8, V8_0, V8_1, V8_2, V8_3, V8_4, V8_5, V8_6⟩ := hQ8
  have N8 := Fr.app N6 N8q
  have Ee6 := Ee6.keep K8
  have Z9 := Nat.le_trans Z7 K8.1
  have KP := KP.trans K8 (allS (Or.inl (List.mem_of_getElem? (i := 0) rfl)) (allS (Or.inr sz_b6_0) (allS (Or.inr sz_b6_1) (allS (Or.inr sz_b6_2) (allS (Or.inr sz_b6_3) (allS (Or.inr sz_b6_4) (allS (Or.inr sz_b6_5) (allS (Or.inr sz_b6_6) all0))))))))
  obtain ⟨cq10, q10, q10'⟩ := Ee8.cell
  obtain ⟨_, _, ⟨T10, L10, k10, n10⟩, -, X10, ⟨Lc10, hQ10, l10, y10, z10⟩, st10⟩ := X8.privateBack hx (y := (⟨"com/example/synclattice/synclattice/sync/StatePairs", "add", "(II)I"⟩ : MethodName)) hown (mvT hZ (hw _ (List.mem_of_getElem? (i := 62) rfl))) (mvT hZ (hw _ (List.mem_of_getElem? (i := 63) rfl))) (own_selP (mvT hZ (hw _ (List.mem_of_getElem? (i := 1) rfl))) (mvP hZ (hw _ (List.mem_of_getElem? (i := 64) rfl))) (mvT hZ (hw _ (List.mem_of_getElem? (i := 63) rfl))) (by decide)) (Cond.privateMethod_at (mvP hZ (hw _ (List.mem_of_getElem? (i := 64) rfl)) (args := #[]))) (mvT hZ (hw _ (List.mem_of_getElem? (i := 65) rfl))) (by decide) (backOf (W := 0) (own_add1 l Z a0 hw [] a (1 : Int32) (0 : Int32) b6_0 b6_1 b6_2 b6_3 b6_4 b6_5 b6_6 j6_0 j6_1 j6_2 j6_3 j6_4 j6_5 j6_6 (0 : Int64) (0 : Int64) (0 : Int64) (0 : Int64) (0 : Int64) (0 : Int64) (9223372036854775807 : Int64) (0 : Int64) (9223372036854775807 : Int64) (0 : Int64) (0 : Int32) (0 : Int32) (0 : Int32) (0 : Int32) T8.heap n0 Z9 Ee8 F8_0 F8_1 F8_2 F8_3 F8_4 F8_5 F8_6 Fc8 V8_0 V8_1 V8_2 V8_3 V8_4 V8_5 V8_6 g g_b6_0 g_b6_1 g_b6_2 g_b6_3 g_b6_4 g_b6_5 g_b6_6 m6_0_1 m6_0_2 m6_0_3 m6_0_4 m6_0_5 m6_0_6 m6_1_2 m6_1_3 m6_1_4 m6_1_5 m6_1_6 m6_2_3 m6_2_4 m6_2_5 m6_2_6 m6_3_4 m6_3_5 m6_3_6 m6_4_5 m6_4_6 m6_5_6) hZ (hw _ (List.mem_of_getElem? (i := 65) rfl)) (hw _ (List.mem_of_getElem? (i := 2) rfl)) (by decide) (by decide)) (g := (mkF m 64 #[.val (.ref a), .val (.int (2 : Int32)), .val (.int (1 : Int32))] [(.int (0 : Int32)), (.int (1 : Int32)), (.ref a)])) rfl (by rw [hml]; rfl) (Steps.refl _) (a := a) q10 q10' (argsL := [(.int (1 : Int32)), (.int (0 : Int32))]) (rest := []) (lenOf own_pd0 rfl) rfl (by show 2 * 0 + _ ≤ _; exact Nat.le_of_eq rfl) (hb hby own_d3_64) (fun _ _ => ⟨rfl, rfl, (by decide : 8 + 0 ≤ _), (by decide : 16 + 0 ≤ _)⟩)
  dsimp only [Pt.U, Pt.locs, Pt.cells, Pt.slots] at X10 l10 y10 z10 st10 hQ10
  subst l10 y10 z10
  obtain ⟨rfl, N10q, K10, Ee10, F10_0, F10_1, F10_2, F10_3, F10_4, F10_5, F10_6, Fc10, V10_0, V10_1, V10_2, V10_3, V10_4, V10_5, V10_6⟩ := hQ10
  have N10 := Fr.app N8 N10q
  have Ee8 := Ee8.keep K10
  have Z11 := Nat.le_trans Z9 K10.1
  have KP := KP.trans K10 (allS (Or.inl (List.mem_of_getElem? (i := 0) rfl)) (allS (Or.inr sz_b6_0) (allS (Or.inr sz_b6_1) (allS (Or.inr sz_b6_2) (allS (Or.inr sz_b6_3) (allS (Or.inr sz_b6_4) (allS (Or.inr sz_b6_5) (allS (Or.inr sz_b6_6) all0))))))))
  obtain ⟨fs, hr, hrun, hended, hW, hsame⟩ := X10.leave (v := none) (fun _ => rfl)
  refine ⟨_, _, pre0 _ ?_, hrun, hended, _, _, rfl, ?_, ⟨_, rfl⟩, hW, hsame.mono (by decide) (by decide)⟩
  · show Steps p.tables e below (s₁.setTop (mkF m 0 #[.val (.ref a), .val (.int (2 : Int32)), .unset] [])) _
    refine XS.aloadN X0.here hx rfl (hb hby own_d3_0) rfl rfl ?_
    show Steps p.tables e below (s₁.setTop (mkF m 1 #[.val (.ref a), .val (.int (2 : Int32)), .unset] [(.ref a)])) _
    refine st1 _ ?_
    show Steps p.tables e below (T1.setTop (mkF m 4 #[.val (.ref a), .val (.int (2 : Int32)), .unset] [(.int (0 : Int32))])) _
    refine XS.iconst X1.here hx rfl (hb hby own_d3_4) ?_
    show Steps p.tables e below (T1.setTop (mkF m 5 #[.val (.ref a), .val (.int (2 : Int32)), .unset] [(.int (1 : Int32)), (.int (0 : Int32))])) _
    refine XS.icmpYes X1.here hx rfl (pc0 := 5) (pc' := 39) rfl (hb hby own_d3_5) rfl (flt (by decide : ¬ ((1 : Int32) < (0 : Int32)))).2.2.2 (by decide) (by decide) ?_
    show Steps p.tables e below (T1.setTop (mkF m 39 #[.val (.ref a), .val (.int (2 : Int32)), .unset] [])) _
    refine XS.aloadN X1.here hx rfl (hb hby own_d3_39) rfl rfl ?_
    show Steps p.tables e below (T1.setTop (mkF m 40 #[.val (.ref a), .val (.int (2 : Int32)), .unset] [(.ref a)])) _
    refine XS.iloadN X1.here hx rfl (hb hby own_d3_40) rfl ?_
    show Steps p.tables e below (T1.setTop (mkF m 41 #[.val (.ref a), .val (.int (2 : Int32)), .unset] [(.int (2 : Int32)), (.ref a)])) _
    refine st2 _ ?_
    show Steps p.tables e below (T2.setTop (mkF m 44 #[.val (.ref a), .val (.int (2 : Int32)), .unset] [])) _
    refine XS.aloadN X2.here hx rfl (hb hby own_d3_44) rfl rfl ?_
    show Steps p.tables e below (T2.setTop (mkF m 45 #[.val (.ref a), .val (.int (2 : Int32)), .unset] [(.ref a)])) _
    refine XS.iconst X2.here hx rfl (hb hby own_d3_45) ?_
    show Steps p.tables e below (T2.setTop (mkF m 46 #[.val (.ref a), .val (.int (2 : Int32)), .unset] [(.int (0 : Int32)), (.ref a)])) _
    refine st4 _ ?_
    show Steps p.tables e below (T4.setTop (mkF m 49 #[.val (.ref a), .val (.int (2 : Int32)), .unset] [])) _
    refine XS.aloadN X4.here hx rfl (hb hby own_d3_49) rfl rfl ?_
    show Steps p.tables e below (T4.setTop (mkF m 50 #[.val (.ref a), .val (.int (2 : Int32)), .unset] [(.ref a)])) _
    refine XS.iloadN X4.here hx rfl (hb hby own_d3_50) rfl ?_
    show Steps p.tables e below (T4.setTop (mkF m 51 #[.val (.ref a), .val (.int (2 : Int32)), .unset] [(.int (2 : Int32)), (.ref a)])) _
    refine st6.trans ?_
    show Steps p.tables e below (T6.setTop (mkF m 54 #[.val (.ref a), .val (.int (2 : Int32)), .unset] [])) _
    refine XS.iconst X6.here hx rfl (hb hby own_d3_54) ?_
    show Steps p.tables e below (T6.setTop (mkF m 55 #[.val (.ref a), .val (.int (2 : Int32)), .unset] [(.int (0 : Int32))])) _
    refine XS.istoreN X6.here hx rfl (hb hby own_d3_55) rfl (l' := #[.val (.ref a), .val (.int (2 : Int32)), .val (.int (0 : Int32))]) rfl ?_
    show Steps p.tables e below (T6.setTop (mkF m 56 #[.val (.ref a), .val (.int (2 : Int32)), .val (.int (0 : Int32))] [])) _
    refine XS.iloadN X6.here hx rfl (hb hby own_d3_56) rfl ?_
    show Steps p.tables e below (T6.setTop (mkF m 57 #[.val (.ref a), .val (.int (2 : Int32)), .val (.int (0 : Int32))] [(.int (0 : Int32))])) _
    refine XS.iloadN X6.here hx rfl (hb hby own_d3_57) rfl ?_
    show Steps p.tables e below (T6.setTop (mkF m 58 #[.val (.ref a), .val (.int (2 : Int32)), .val (.int (0 : Int32))] [(.int (2 : Int32)), (.int (0 : Int32))])) _
    refine XS.icmpNo X6.here hx rfl (hb hby own_d3_58) rfl (tlt (by decide : (0 : Int32) < (2 : Int32))).2.1 ?_
    show Steps p.tables e below (T6.setTop (mkF m 61 #[.val (.ref a), .val (.int (2 : Int32)), .val (.int (0 : Int32))] [])) _
    refine XS.aloadN X6.here hx rfl (hb hby own_d3_61) rfl rfl ?_
    show Steps p.tables e below (T6.setTop (mkF m 62 #[.val (.ref a), .val (.int (2 : Int32)), .val (.int (0 : Int32))] [(.ref a)])) _
    refine XS.iloadN X6.here hx rfl (hb hby own_d3_62) rfl ?_
    show Steps p.tables e below (T6.setTop (mkF m 63 #[.val (.ref a), .val (.int (2 : Int32)), .val (.int (0 : Int32))] [(.int (0 : Int32)), (.ref a)])) _
    refine XS.iconst X6.here hx rfl (hb hby own_d3_63) ?_
    show Steps p.tables e below (T6.setTop (mkF m 64 #[.val (.ref a), .val (.int (2 : Int32)), .val (.int (0 : Int32))] [(.int (0 : Int32)), (.int (0 : Int32)), (.ref a)])) _
    refine st8.trans ?_
    show Steps p.tables e below (T8.setTop (mkF m 67 #[.val (.ref a), .val (.int (2 : Int32)), .val (.int (0 : Int32))] [(.int (0 : Int32))])) _
    refine XS.pop X8.here hx rfl (hb hby own_d3_67) rfl rfl ?_
    show Steps p.tables e below (T8.setTop (mkF m 68 #[.val (.ref a), .val (.int (2 : Int32)), .val (.int (0 : Int32))] [])) _
    refine XS.iinc X8.here hx rfl (hb hby own_d3_68) rfl (l' := #[.val (.ref a), .val (.int (2 : Int32)), .val (.int (1 : Int32))]) rfl ?_
    show Steps p.tables e below (T8.setTop (mkF m 71 #[.val (.ref a), .val (.int (2 : Int32)), .val (.int (1 : Int32))] [])) _
    refine XS.goto X8.here hx rfl (pc0 := 71) (pc' := 56) rfl (hb hby own_d3_71) (by decide) (by decide) ?_
    show Steps p.tables e below (T8.setTop (mkF m 56 #[.val (.ref a), .val (.int (2 : Int32)), .val (.int (1 : Int32))] [])) _
    refine XS.iloadN X8.here hx rfl (hb hby own_d3_56) rfl ?_
    show Steps p.tables e below (T8.setTop (mkF m 57 #[.val (.ref a), .val (.int (2 : Int32)), .val (.int (1 : Int32))] [(.int (1 : Int32))])) _
    refine XS.iloadN X8.here hx rfl (hb hby own_d3_57) rfl ?_
    show Steps p.tables e below (T8.setTop (mkF m 58 #[.val (.ref a), .val (.int (2 : Int32)), .val (.int (1 : Int32))] [(.int (2 : Int32)), (.int (1 : Int32))])) _
    refine XS.icmpNo X8.here hx rfl (hb hby own_d3_58) rfl (tlt (by decide : (1 : Int32) < (2 : Int32))).2.1 ?_
    show Steps p.tables e below (T8.setTop (mkF m 61 #[.val (.ref a), .val (.int (2 : Int32)), .val (.int (1 : Int32))] [])) _
    refine XS.aloadN X8.here hx rfl (hb hby own_d3_61) rfl rfl ?_
    show Steps p.tables e below (T8.setTop (mkF m 62 #[.val (.ref a), .val (.int (2 : Int32)), .val (.int (1 : Int32))] [(.ref a)])) _
    refine XS.iloadN X8.here hx rfl (hb hby own_d3_62) rfl ?_
    show Steps p.tables e below (T8.setTop (mkF m 63 #[.val (.ref a), .val (.int (2 : Int32)), .val (.int (1 : Int32))] [(.int (1 : Int32)), (.ref a)])) _
    refine XS.iconst X8.here hx rfl (hb hby own_d3_63) ?_
    show Steps p.tables e below (T8.setTop (mkF m 64 #[.val (.ref a), .val (.int (2 : Int32)), .val (.int (1 : Int32))] [(.int (0 : Int32)), (.int (1 : Int32)), (.ref a)])) _
    refine st10.trans ?_
    show Steps p.tables e below (T10.setTop (mkF m 67 #[.val (.ref a), .val (.int (2 : Int32)), .val (.int (1 : Int32))] [(.int (1 : Int32))])) _
    refine XS.pop X10.here hx rfl (hb hby own_d3_67) rfl rfl ?_
    show Steps p.tables e below (T10.setTop (mkF m 68 #[.val (.ref a), .val (.int (2 : Int32)), .val (.int (1 : Int32))] [])) _
    refine XS.iinc X10.here hx rfl (hb hby own_d3_68) rfl (l' := #[.val (.ref a), .val (.int (2 : Int32)), .val (.int (2 : Int32))]) rfl ?_
    show Steps p.tables e below (T10.setTop (mkF m 71 #[.val (.ref a), .val (.int (2 : Int32)), .val (.int (2 : Int32))] [])) _
    refine XS.goto X10.here hx rfl (pc0 := 71) (pc' := 56) rfl (hb hby own_d3_71) (by decide) (by decide) ?_
    show Steps p.tables e below (T10.setTop (mkF m 56 #[.val (.ref a), .val (.int (2 : Int32)), .val (.int (2 : Int32))] [])) _
    refine XS.iloadN X10.here hx rfl (hb hby own_d3_56) rfl ?_
    show Steps p.tables e below (T10.setTop (mkF m 57 #[.val (.ref a), .val (.int (2 : Int32)), .val (.int (2 : Int32))] [(.int (2 : Int32))])) _
    refine XS.iloadN X10.here hx rfl (hb hby own_d3_57) rfl ?_
    show Steps p.tables e below (T10.setTop (mkF m 58 #[.val (.ref a), .val (.int (2 : Int32)), .val (.int (2 : Int32))] [(.int (2 : Int32)), (.int (2 : Int32))])) _
    refine XS.icmpYes X10.here hx rfl (pc0 := 58) (pc' := 74) rfl (hb hby own_d3_58) rfl (flt (by decide : ¬ ((2 : Int32) < (2 : Int32)))).2.1 (by decide) (by decide) ?_
    show Steps p.tables e below (T10.setTop (mkF m 74 #[.val (.ref a), .val (.int (2 : Int32)), .val (.int (2 : Int32))] [])) _
    exact X10.returnOut hx Bd.returns (hb hby own_d3_74) hr
  · show own_Q_own_clear Z a p0 p1 p2 p3 p4 p5 p6 p7 k_0 k_1 k_2 k_3 k_4 k_5 k_6 k_7 h0 n0 _ T10.heap _
    exact ⟨b6_0, b6_1, b6_2, b6_3, b6_4, _, _, _, _, _, rfl, N10, KP, Ee10, F10_0, F10_1, F10_2, F10_3, F10_4, Fc10, V10_0, V10_1, V10_2, V10_3, V10_4, m6_0_1, m6_0_2, m6_0_3, m6_0_4, m6_1_2, m6_1_3, m6_1_4, m6_2_3, m6_2_4, m6_3_4, sz_b6_0, sz_b6_1, sz_b6_2, sz_b6_3, sz_b6_4⟩
theorem own_pd4 : parseMethodDescriptor "(JJ)J" = some ⟨[.long, .long], some .long⟩ := by decide +kernel
theorem own_d10_0 : decode prog_101_method_12_code 0 = .ok (.aload_n 0, 1) := by decide +kernel
theorem own_d10_1 : decode prog_101_method_12_code 1 = .ok (.getfield 13, 3) := by decide +kernel
theorem own_d10_4 : decode prog_101_method_12_code 4 = .ok (.iload_n 1, 1) := by decide +kernel
theorem own_d10_5 : decode prog_101_method_12_code 5 = .ok (.dup2, 1) := by decide +kernel
theorem own_d10_6 : decode prog_101_method_12_code 6 = .ok (.laload, 1) := by decide +kernel
theorem own_d10_7 : decode prog_101_method_12_code 7 = .ok (.lload_n 2, 1) := by decide +kernel
theorem own_d10_8 : decode prog_101_method_12_code 8 = .ok (.ladd, 1) := by decide +kernel
theorem own_d10_9 : decode prog_101_method_12_code 9 = .ok (.lastore, 1) := by decide +kernel
theorem own_d10_10 : decode prog_101_method_12_code 10 = .ok (.aload_n 0, 1) := by decide +kernel
theorem own_d10_11 : decode prog_101_method_12_code 11 = .ok (.getfield 22, 3) := by decide +kernel
theorem own_d10_14 : decode prog_101_method_12_code 14 = .ok (.iload_n 1, 1) := by decide +kernel
theorem own_d10_15 : decode prog_101_method_12_code 15 = .ok (.aload_n 0, 1) := by decide +kernel
theorem own_d10_16 : decode prog_101_method_12_code 16 = .ok (.getfield 22, 3) := by decide +kernel
theorem own_d10_19 : decode prog_101_method_12_code 19 = .ok (.iload_n 1, 1) := by decide +kernel
theorem own_d10_20 : decode prog_101_method_12_code 20 = .ok (.laload, 1) := by decide +kernel
theorem own_d10_21 : decode prog_101_method_12_code 21 = .ok (.lload 4, 2) := by decide +kernel
theorem own_d10_23 : decode prog_101_method_12_code 23 = .ok (.invokestatic 87, 3) := by decide +kernel
theorem own_d10_26 : decode prog_101_method_12_code 26 = .ok (.lastore, 1) := by decide +kernel
theorem own_d10_27 : decode prog_101_method_12_code 27 = .ok (.return_, 1) := by decide +kernel
theorem own_ef10 (m : MethodId) (x0 : Addr) (x1 : Int32) (x2 : Int64) (x3 : Int64) : entryFrame m #[(.ref x0), (.int x1), (.long x2), (.long x3)] 6 = mkF m 0 #[.val (.ref x0), .val (.int x1), .val (.long x2), .second, .val (.long x3), .second] [] := by first | (simp [entryFrame, mkF, argsToLocals, Value.category]; done) | rfl
def own_Q_own_addN0 (Z : State) (a : Addr) (c1 : Int64) (f1 : Int64) (pn : Addr) (pf : Addr) (kn : ClassId) (kf : ClassId) (y0 : Int64) (y1 : Int64) (z0 : Int64) (z1 : Int64) (h0 : Heap) (n0 : Nat) (v : Option Value) (h : Heap) (L : List Loc) : Prop := v = none ∧ Fr n0 L ∧ Keep h0 h [pn, pf] ∧ Arv Z h pn kn .long (2 : Int32) [(.long (y0 + c1)), (.long y1)] (.long (0 : Int64)) ∧ Arv Z h pf kf .long (2 : Int32) [(.long (if f1 < z0 then f1 else z0)), (.long z1)] (.long (0 : Int64))
set_option maxRecDepth 65536 in
set_option maxHeartbeats 40000000 in
theorem own_addN0 (l : Launch) (Z : State) (a0 : Array Value) (hw : ∀ d ∈ tables_1, d.before a0 Z = true) (ws : List Jvm.Cond) (a : Addr) (c1 : Int64) (f1 : Int64) (pn : Addr) (pf : Addr) (kn : ClassId) (kf : ClassId) (y0 : Int64) (y1 : Int64) (z0 : Int64) (z1 : Int64) (h0 : Heap) (n0 : Nat) (Z0 : n0 ≤ h0.size) (F_n : Fld Z h0 a "com/example/synclattice/synclattice/sync/StatePairs" "negatives" "[J" (.ref pn)) (F_f : Fld Z h0 a "com/example/synclattice/synclattice/sync/StatePairs" "firstNegatives" "[J" (.ref pf)) (Vn : Arv Z h0 pn kn .long (2 : Int32) [(.long y0), (.long y1)] (.long (0 : Int64))) (Vf : Arv Z h0 pf kf .long (2 : Int32) [(.long z0), (.long z1)] (.long (0 : Int64))) (ne1 : pn ≠ pf) (ne2 : a ≠ pn) (ne3 : a ≠ pf) (g1 : n0 ≤ pn) (g2 : n0 ≤ pf) :
    MetFree l (⟨"com/example/synclattice/synclattice/sync/StatePairs", "addNegatives", "(IJJ)V"⟩ : MethodName) (head1 (Jvm.Cond.code (⟨"com/example/synclattice/synclattice/sync/StatePairs", "addNegatives", "(IJJ)V"⟩ : MethodName) prog_101_method_12_code 6 none :: ws) ({ frames := 1, cells := 0, slots := 0, locals := 17 } : Room)) (fun as_ U => as_ = #[(.ref a), (.int (0 : Int32)), (.long c1), (.long f1)] ∧ Z.Warmed39 U.vm ∧ U.heap = h0) (fun _ _ _ _ _ => True) (fun _ U o U' => ∃ v L, o = .returned v ∧ own_Q_own_addN0 Z a c1 f1 pn pf kn kf y0 y1 z0 z1 h0 n0 v U'.heap L ∧ FrameEnd U o U' L ({ frames := 1, cells := 0, slots := 0, locals := 17 } : Room).cells ({ frames := 1, cells := 0, slots := 0, locals := 17 } : Room).slots) := by
  refine MetFree.of_bodySF (plainFor_of_name own_pn0) hisR ?_
  intro p e s m args below meth c s₁ Bd hml0 hP hK
  obtain ⟨rfl, hZ, hh⟩ := hP
  have hx := Bd.exec
  have hby := Bd.bytes
  have hml : c.maxLocals = 6 := hml0
  have hown : s.vm.findClass "com/example/synclattice/synclattice/sync/StatePairs" = some m.cls := findClass_of_methodNamed Bd.named
  have hnm := (name_of_methodNamed Bd.named Bd.method).1
  have X0 : Stand p l e ({ frames := 1, cells := 0, slots := 0, locals := 17 } : Room) s m #[(.ref a), (.int (0 : Int32)), (.long c1), (.long f1)] below meth c s₁ [] 0 0 := Stand.of_body Bd
  have e0 : s₁.heap = h0 := by rw [← hh, Bd.state]; rfl
  have N0 := Fr.nil n0
  have pre0 : ∀ t, Steps p.tables e below (s₁.setTop (mkF m 0 #[.val (.ref a), .val (.int (0 : Int32)), .val (.long c1), .second, .val (.long f1), .second] [])) t → Steps p.tables e below (s₁.setTop (entryFrame m #[(.ref a), (.int (0 : Int32)), (.long c1), (.long f1)] 6)) t := fun t k => castTop (own_ef10 m a (0 : Int32) c1 f1) k
  have KP := Keep.refl h0 ([pn, pf] : List Addr)
  obtain ⟨T1, X1, e1, st1⟩ := getF X0 hx hZ hown (host := "") (Or.inl (hw _ (List.mem_of_getElem? (i := 12) rfl))) Via.refl e0 F_n (g := (mkF m 1 #[.val (.ref a), .val (.int (0 : Int32)), .val (.long c1), .second, .val (.long f1), .second] [(.ref a)])) rfl rfl (hb hby own_d10_1)
  obtain ⟨cl2, Ar2, q2, S2, M2, H2, G2⟩ := id Vn
  have hin2 : ¬ ((0 : Int32) < 0 ∨ cl2.slots.size ≤ ((0 : Int32)).toNatClampNeg) := inb_of S2 ⟨by decide, by decide⟩
  obtain ⟨cl3, Ar3, q3, S3, M3, H3, G3⟩ := id Vn
  have hin3 : ¬ ((0 : Int32) < 0 ∨ cl3.slots.size ≤ ((0 : Int32)).toNatClampNeg) := inb_of S3 ⟨by decide, by decide⟩
  obtain ⟨T4, h4, X4, e4, W4, st4⟩ := stJ X1 hx hZ e1 Ar3 (j := (0 : Int32)) hin3 (g := (mkF m 9 #[.val (.ref a), .val (.int (0 : Int32)), .val (.long c1), .second, .val (.long f1), .second] [(.long (y0 + c1)), (.int (0 : Int32)), (.ref pn)])) rfl rfl (hb hby own_d10_9)
  have F_n := F_n.other W4 (Or.inl ne2)
  have F_f := F_f.other W4 (Or.inl ne2)
  have Vf := Vf.other W4 (Ne.symm ne1)
  have Z5 : n0 ≤ h4.size := Nat.le_trans Z0 (Keep.of_wr W4).1
  have KP := KP.wr W4 (Or.inl (List.mem_of_getElem? (i := 0) rfl))
  have Vn := Arv.set Ar3 q3 S3 M3 H3 G3 rfl W4 0 rfl (Nat.le_of_ble_eq_true rfl)
  have Vn : Arv Z h4 pn kn .long (2 : Int32) [(.long (y0 + c1)), (.long y1)] (.long (0 : Int64)) := Vn
  have N4 := Fr.snoc X4 N0 g1
  obtain ⟨T6, X6, e6, st6⟩ := getF X4 hx hZ hown (host := "") (Or.inl (hw _ (List.mem_of_getElem? (i := 18) rfl))) Via.refl e4 F_f (g := (mkF m 11 #[.val (.ref a), .val (.int (0 : Int32)), .val (.long c1), .second, .val (.long f1), .second] [(.ref a)])) rfl rfl (hb hby own_d10_11)
  obtain ⟨T7, X7, e7, st7⟩ := getF X6 hx hZ hown (host := "") (Or.inl (hw _ (List.mem_of_getElem? (i := 18) rfl))) Via.refl e6 F_f (g := (mkF m 16 #[.val (.ref a), .val (.int (0 : Int32)), .val (.long c1), .second, .val (.long f1), .second] [(.ref a), (.int (0 : Int32)), (.ref pf)])) rfl rfl (hb hby own_d10_16)
  obtain ⟨cl8, Ar8, q8, S8, M8, H8, G8⟩ := id Vf
  have hin8 : ¬ ((0 : Int32) < 0 ∨ cl8.slots.size ≤ ((0 : Int32)).toNatClampNeg) := inb_of S8 ⟨by decide, by decide⟩
  obtain ⟨_, _, ⟨T9, L9, k9, n9⟩, -, X9, ⟨Lc9, hQ9, l9, y9, z9⟩, st9⟩ := Jvm.LawKit.callS X7 hx (y := (⟨"java/lang/Math", "min", "(JJ)J"⟩ : MethodName)) hown (mvT hZ (hw _ (List.mem_of_getElem? (i := 80) rfl))) (mvT hZ (hw _ (List.mem_of_getElem? (i := 81) rfl))) (mvT hZ (hw _ (List.mem_of_getElem? (i := 46) rfl))) (mvT hZ (hw _ (List.mem_of_getElem? (i := 82) rfl))) (by decide) (backOf (W := 2) (own_minL l Z a0 hw [] z0 f1  h4 n0 Z5 ) hZ (hw _ (List.mem_of_getElem? (i := 82) rfl)) (hw _ (List.mem_of_getElem? (i := 46) rfl)) (by decide) (by decide)) (g := (mkF m 23 #[.val (.ref a), .val (.int (0 : Int32)), .val (.long c1), .second, .val (.long f1), .second] [(.long f1), (.long z0), (.int (0 : Int32)), (.ref pf)])) rfl (by rw [hml]; rfl) (argsL := [(.long z0), (.long f1)]) (rest := [(.int (0 : Int32)), (.ref pf)]) (lenOf own_pd4 rfl) rfl (by show 2 * 0 + _ ≤ _; exact Nat.le_of_eq rfl) (hb hby own_d10_23) (fun _ _ => ⟨rfl, e7, (by decide : 0 + 0 ≤ _), (by decide : 0 + 0 ≤ _)⟩)
  dsimp only [Pt.U, Pt.locs, Pt.cells, Pt.slots] at X9 l9 y9 z9 st9 hQ9
  subst l9 y9 z9
  obtain ⟨rfl, N9q, e9⟩ := hQ9
  have N9 := Fr.app N4 N9q
  obtain ⟨cl10, Ar10, q10, S10, M10, H10, G10⟩ := id Vf
  have hin10 : ¬ ((0 : Int32) < 0 ∨ cl10.slots.size ≤ ((0 : Int32)).toNatClampNeg) := inb_of S10 ⟨by decide, by decide⟩
  obtain ⟨T11, h11, X11, e11, W11, st11⟩ := stJ X9 hx hZ e9 Ar10 (j := (0 : Int32)) hin10 (g := (mkF m 26 #[.val (.ref a), .val (.int (0 : Int32)), .val (.long c1), .second, .val (.long f1), .second] [(.long (if f1 < z0 then f1 else z0)), (.int (0 : Int32)), (.ref pf)])) rfl rfl (hb hby own_d10_26)
  have F_n := F_n.other W11 (Or.inl ne3)
  have F_f := F_f.other W11 (Or.inl ne3)
  have Vn := Vn.other W11 ne1
  have Z12 : n0 ≤ h11.size := Nat.le_trans Z5 (Keep.of_wr W11).1
  have KP := KP.wr W11 (Or.inl (List.mem_of_getElem? (i := 1) rfl))
  have Vf := Arv.set Ar10 q10 S10 M10 H10 G10 rfl W11 0 rfl (Nat.le_of_ble_eq_true rfl)
  have Vf : Arv Z h11 pf kf .long (2 : Int32) [(.long (if f1 < z0 then f1 else z0)), (.long z1)] (.long (0 : Int64)) := Vf
  have N11 := Fr.snoc X11 N9 g2
  obtain ⟨fs, hr, hrun, hended, hW, hsame⟩ := X11.leave (v := none) (fun _ => rfl)
  refine ⟨_, _, pre0 _ ?_, hrun, hended, _, _, rfl, ?_, ⟨_, rfl⟩, hW, hsame.mono (by decide) (by decide)⟩
  · show Steps p.tables e below (s₁.setTop (mkF m 0 #[.val (.ref a), .val (.int (0 : Int32)), .val (.long c1), .second, .val (.long f1), .second] [])) _
    refine XS.aloadN X0.here hx rfl (hb hby own_d10_0) rfl rfl ?_
    show Steps p.tables e below (s₁.setTop (mkF m 1 #[.val (.ref a), .val (.int (0 : Int32)), .val (.long c1), .second, .val (.long f1), .second] [(.ref a)])) _
    refine st1 _ ?_
    show Steps p.tables e below (T1.setTop (mkF m 4 #[.val (.ref a), .val (.int (0 : Int32)), .val (.long c1), .second, .val (.long f1), .second] [(.ref pn)])) _
    refine XS.iloadN X1.here hx rfl (hb hby own_d10_4) rfl ?_
    show Steps p.tables e below (T1.setTop (mkF m 5 #[.val (.ref a), .val (.int (0 : Int32)), .val (.long c1), .second, .val (.long f1), .second] [(.int (0 : Int32)), (.ref pn)])) _
    refine XT.dup2 X1.here hx rfl (hb hby own_d10_5) rfl rfl rfl ?_
    show Steps p.tables e below (T1.setTop (mkF m 6 #[.val (.ref a), .val (.int (0 : Int32)), .val (.long c1), .second, .val (.long f1), .second] [(.int (0 : Int32)), (.ref pn), (.int (0 : Int32)), (.ref pn)])) _
    refine X1.laload hx (j := (0 : Int32)) (v := (.long y0)) (by rw [e1]; exact Ar2.1) (State.isArrayOf_alike hZ.alike Ar2.2.1) Ar2.2.2 hin2 (H2.at hin2 rfl) (g := (mkF m 6 #[.val (.ref a), .val (.int (0 : Int32)), .val (.long c1), .second, .val (.long f1), .second] [(.int (0 : Int32)), (.ref pn), (.int (0 : Int32)), (.ref pn)])) rfl rfl (hb hby own_d10_6) _ ?_
    show Steps p.tables e below (T1.setTop (mkF m 7 #[.val (.ref a), .val (.int (0 : Int32)), .val (.long c1), .second, .val (.long f1), .second] [(.long y0), (.int (0 : Int32)), (.ref pn)])) _
    refine XS.lloadN X1.here hx rfl (hb hby own_d10_7) rfl ?_
    show Steps p.tables e below (T1.setTop (mkF m 8 #[.val (.ref a), .val (.int (0 : Int32)), .val (.long c1), .second, .val (.long f1), .second] [(.long c1), (.long y0), (.int (0 : Int32)), (.ref pn)])) _
    refine XS.ladd X1.here hx rfl (hb hby own_d10_8) rfl ?_
    show Steps p.tables e below (T1.setTop (mkF m 9 #[.val (.ref a), .val (.int (0 : Int32)), .val (.long c1), .second, .val (.long f1), .second] [(.long (y0 + c1)), (.int (0 : Int32)), (.ref pn)])) _
    refine st4 _ ?_
    show Steps p.tables e below (T4.setTop (mkF m 10 #[.val (.ref a), .val (.int (0 : Int32)), .val (.long c1), .second, .val (.long f1), .second] [])) _
    refine XS.aloadN X4.here hx rfl (hb hby own_d10_10) rfl rfl ?_
    show Steps p.tables e below (T4.setTop (mkF m 11 #[.val (.ref a), .val (.int (0 : Int32)), .val (.long c1), .second, .val (.long f1), .second] [(.ref a)])) _
    refine st6 _ ?_
    show Steps p.tables e below (T6.setTop (mkF m 14 #[.val (.ref a), .val (.int (0 : Int32)), .val (.long c1), .second, .val (.long f1), .second] [(.ref pf)])) _
    refine XS.iloadN X6.here hx rfl (hb hby own_d10_14) rfl ?_
    show Steps p.tables e below (T6.setTop (mkF m 15 #[.val (.ref a), .val (.int (0 : Int32)), .val (.long c1), .second, .val (.long f1), .second] [(.int (0 : Int32)), (.ref pf)])) _
    refine XS.aloadN X6.here hx rfl (hb hby own_d10_15) rfl rfl ?_
    show Steps p.tables e below (T6.setTop (mkF m 16 #[.val (.ref a), .val (.int (0 : Int32)), .val (.long c1), .second, .val (.long f1), .second] [(.ref a), (.int (0 : Int32)), (.ref pf)])) _
    refine st7 _ ?_
    show Steps p.tables e below (T7.setTop (mkF m 19 #[.val (.ref a), .val (.int (0 : Int32)), .val (.long c1), .second, .val (.long f1), .second] [(.ref pf), (.int (0 : Int32)), (.ref pf)])) _
    refine XS.iloadN X7.here hx rfl (hb hby own_d10_19) rfl ?_
    show Steps p.tables e below (T7.setTop (mkF m 20 #[.val (.ref a), .val (.int (0 : Int32)), .val (.long c1), .second, .val (.long f1), .second] [(.int (0 : Int32)), (.ref pf), (.int (0 : Int32)), (.ref pf)])) _
    refine X7.laload hx (j := (0 : Int32)) (v := (.long z0)) (by rw [e7]; exact Ar8.1) (State.isArrayOf_alike hZ.alike Ar8.2.1) Ar8.2.2 hin8 (H8.at hin8 rfl) (g := (mkF m 20 #[.val (.ref a), .val (.int (0 : Int32)), .val (.long c1), .second, .val (.long f1), .second] [(.int (0 : Int32)), (.ref pf), (.int (0 : Int32)), (.ref pf)])) rfl rfl (hb hby own_d10_20) _ ?_
    show Steps p.tables e below (T7.setTop (mkF m 21 #[.val (.ref a), .val (.int (0 : Int32)), .val (.long c1), .second, .val (.long f1), .second] [(.long z0), (.int (0 : Int32)), (.ref pf)])) _
    refine XS.lload X7.here hx rfl (hb hby own_d10_21) rfl ?_
    show Steps p.tables e below (T7.setTop (mkF m 23 #[.val (.ref a), .val (.int (0 : Int32)), .val (.long c1), .second, .val (.long f1), .second] [(.long f1), (.long z0), (.int (0 : Int32)), (.ref pf)])) _
    refine st9 _ ?_
    show Steps p.tables e below (T9.setTop (mkF m 26 #[.val (.ref a), .val (.int (0 : Int32)), .val (.long c1), .second, .val (.long f1), .second] [(.long (if f1 < z0 then f1 else z0)), (.int (0 : Int32)), (.ref pf)])) _
    refine st11 _ ?_
    show Steps p.tables e below (T11.setTop (mkF m 27 #[.val (.ref a), .val (.int (0 : Int32)), .val (.long c1), .second, .val (.long f1), .second] [])) _
    exact X11.returnOut hx Bd.returns (hb hby own_d10_27) hr
  · show own_Q_own_addN0 Z a c1 f1 pn pf kn kf y0 y1 z0 z1 h0 n0 _ T11.heap _
    rw [e11]
    exact ⟨rfl, N11, KP, Vn, Vf⟩
def own_Q_own_addN1 (Z : State) (a : Addr) (c1 : Int64) (f1 : Int64) (pn : Addr) (pf : Addr) (kn : ClassId) (kf : ClassId) (y0 : Int64) (y1 : Int64) (z0 : Int64) (z1 : Int64) (h0 : Heap) (n0 : Nat) (v : Option Value) (h : Heap) (L : List Loc) : Prop := v = none ∧ Fr n0 L ∧ Keep h0 h [pn, pf] ∧ Arv Z h pn kn .long (2 : Int32) [(.long y0), (.long (y1 + c1))] (.long (0 : Int64)) ∧ Arv Z h pf kf .long (2 : Int32) [(.long z0), (.long (if f1 < z1 then f1 else z1))] (.long (0 : Int64))
set_option maxRecDepth 65536 in
set_option maxHeartbeats 40000000 in
theorem own_addN1 (l : Launch) (Z : State) (a0 : Array Value) (hw : ∀ d ∈ tables_1, d.before a0 Z = true) (ws : List Jvm.Cond) (a : Addr) (c1 : Int64) (f1 : Int64) (pn : Addr) (pf : Addr) (kn : ClassId) (kf : ClassId) (y0 : Int64) (y1 : Int64) (z0 : Int64) (z1 : Int64) (h0 : Heap) (n0 : Nat) (Z0 : n0 ≤ h0.size) (F_n : Fld Z h0 a "com/example/synclattice/synclattice/sync/StatePairs" "negatives" "[J" (.ref pn)) (F_f : Fld Z h0 a "com/example/synclattice/synclattice/sync/StatePairs" "firstNegatives" "[J" (.ref pf)) (Vn : Arv Z h0 pn kn .long (2 : Int32) [(.long y0), (.long y1)] (.long (0 : Int64))) (Vf : Arv Z h0 pf kf .long (2 : Int32) [(.long z0), (.long z1)] (.long (0 : Int64))) (ne1 : pn ≠ pf) (ne2 : a ≠ pn) (ne3 : a ≠ pf) (g1 : n0 ≤ pn) (g2 : n0 ≤ pf) :
    MetFree l (⟨"com/example/synclattice/synclattice/sync/StatePairs", "addNegatives", "(IJJ)V"⟩ : MethodName) (head1 (Jvm.Cond.code (⟨"com/example/synclattice/synclattice/sync/StatePairs", "addNegatives", "(IJJ)V"⟩ : MethodName) prog_101_method_12_code 6 none :: ws) ({ frames := 1, cells := 0, slots := 0, locals := 17 } : Room)) (fun as_ U => as_ = #[(.ref a), (.int (1 : Int32)), (.long c1), (.long f1)] ∧ Z.Warmed39 U.vm ∧ U.heap = h0) (fun _ _ _ _ _ => True) (fun _ U o U' => ∃ v L, o = .returned v ∧ own_Q_own_addN1 Z a c1 f1 pn pf kn kf y0 y1 z0 z1 h0 n0 v U'.heap L ∧ FrameEnd U o U' L ({ frames := 1, cells := 0, slots := 0, locals := 17 } : Room).cells ({ frames := 1, cells := 0, slots := 0, locals := 17 } : Room).slots) := by
  refine MetFree.of_bodySF (plainFor_of_name own_pn0) hisR ?_
  intro p e s m args below meth c s₁ Bd hml0 hP hK
  obtain ⟨rfl, hZ, hh⟩ := hP
  have hx := Bd.exec
  have hby := Bd.bytes
  have hml : c.maxLocals = 6 := hml0
  have hown : s.vm.findClass "com/example/synclattice/synclattice/sync/StatePairs" = some m.cls := findClass_of_methodNamed Bd.named
  have hnm := (name_of_methodNamed Bd.named Bd.method).1
  have X0 : Stand p l e ({ frames := 1, cells := 0, slots := 0, locals := 17 } : Room) s m #[(.ref a), (.int (1 : Int32)), (.long c1), (.long f1)] below meth c s₁ [] 0 0 := Stand.of_body Bd
  have e0 : s₁.heap = h0 := by rw [← hh, Bd.state]; rfl
  have N0 := Fr.nil n0
  have pre0 : ∀ t, Steps p.tables e below (s₁.setTop (mkF m 0 #[.val (.ref a), .val (.int (1 : Int32)), .val (.long c1), .second, .val (.long f1), .second] [])) t → Steps p.tables e below (s₁.setTop (entryFrame m #[(.ref a), (.int (1 : Int32)), (.long c1), (.long f1)] 6)) t := fun t k => castTop (own_ef10 m a (1 : Int32) c1 f1) k
  have KP := Keep.refl h0 ([pn, pf] : List Addr)
  obtain ⟨T1, X1, e1, st1⟩ := getF X0 hx hZ hown (host := "") (Or.inl (hw _ (List.mem_of_getElem? (i := 12) rfl))) Via.refl e0 F_n (g := (mkF m 1 #[.val (.ref a), .val (.int (1 : Int32)), .val (.long c1), .second, .val (.long f1), .second] [(.ref a)])) rfl rfl (hb hby own_d10_1)
  obtain ⟨cl2, Ar2, q2, S2, M2, H2, G2⟩ := id Vn
  have hin2 : ¬ ((1 : Int32) < 0 ∨ cl2.slots.size ≤ ((1 : Int32)).toNatClampNeg) := inb_of S2 ⟨by decide, by decide⟩
  obtain ⟨cl3, Ar3, q3, S3, M3, H3, G3⟩ := id Vn
  have hin3 : ¬ ((1 : Int32) < 0 ∨ cl3.slots.size ≤ ((1 : Int32)).toNatClampNeg) := inb_of S3 ⟨by decide, by decide⟩
  obtain ⟨T4, h4, X4, e4, W4, st4⟩ := stJ X1 hx hZ e1 Ar3 (j := (1 : Int32)) hin3 (g := (mkF m 9 #[.val (.ref a), .val (.int (1 : Int32)), .val (.long c1), .second, .val (.long f1), .second] [(.long (y1 + c1)), (.int (1 : Int32)), (.ref pn)])) rfl rfl (hb hby own_d10_9)
  have F_n := F_n.other W4 (Or.inl ne2)
  have F_f := F_f.other W4 (Or.inl ne2)
  have Vf := Vf.other W4 (Ne.symm ne1)
  have Z5 : n0 ≤ h4.size := Nat.le_trans Z0 (Keep.of_wr W4).1
  have KP := KP.wr W4 (Or.inl (List.mem_of_getElem? (i := 0) rfl))
  have Vn := Arv.set Ar3 q3 S3 M3 H3 G3 rfl W4 1 rfl (Nat.le_of_ble_eq_true rfl)
  have Vn : Arv Z h4 pn kn .long (2 : Int32) [(.long y0), (.long (y1 + c1))] (.long (0 : Int64)) := Vn
  have N4 := Fr.snoc X4 N0 g1
  obtain ⟨T6, X6, e6, st6⟩ := getF X4 hx hZ hown (host := "") (Or.inl (hw _ (List.mem_of_getElem? (i := 18) rfl))) Via.refl e4 F_f (g := (mkF m 11 #[.val (.ref a), .val (.int (1 : Int32)), .val (.long c1), .second, .val (.long f1), .second] [(.ref a)])) rfl rfl (hb hby own_d10_11)
  obtain ⟨T7, X7, e7, st7⟩ := getF X6 hx hZ hown (host := "") (Or.inl (hw _ (List.mem_of_getElem? (i := 18) rfl))) Via.refl e6 F_f (g := (mkF m 16 #[.val (.ref a), .val (.int (1 : Int32)), .val (.long c1), .second, .val (.long f1), .second] [(.ref a), (.int (1 : Int32)), (.ref pf)])) rfl rfl (hb hby own_d10_16)
  obtain ⟨cl8, Ar8, q8, S8, M8, H8, G8⟩ := id Vf
  have hin8 : ¬ ((1 : Int32) < 0 ∨ cl8.slots.size ≤ ((1 : Int32)).toNatClampNeg) := inb_of S8 ⟨by decide, by decide⟩
  obtain ⟨_, _, ⟨T9, L9, k9, n9⟩, -, X9, ⟨Lc9, hQ9, l9, y9, z9⟩, st9⟩ := Jvm.LawKit.callS X7 hx (y := (⟨"java/lang/Math", "min", "(JJ)J"⟩ : MethodName)) hown (mvT hZ (hw _ (List.mem_of_getElem? (i := 80) rfl))) (mvT hZ (hw _ (List.mem_of_getElem? (i := 81) rfl))) (mvT hZ (hw _ (List.mem_of_getElem? (i := 46) rfl))) (mvT hZ (hw _ (List.mem_of_getElem? (i := 82) rfl))) (by decide) (backOf (W := 2) (own_minL l Z a0 hw [] z1 f1  h4 n0 Z5 ) hZ (hw _ (List.mem_of_getElem? (i := 82) rfl)) (hw _ (List.mem_of_getElem? (i := 46) rfl)) (by decide) (by decide)) (g := (mkF m 23 #[.val (.ref a), .val (.int (1 : Int32)), .val (.long c1), .second, .val (.long f1), .second] [(.long f1), (.long z1), (.int (1 : Int32)), (.ref pf)])) rfl (by rw [hml]; rfl) (argsL := [(.long z1), (.long f1)]) (rest := [(.int (1 : Int32)), (.ref pf)]) (lenOf own_pd4 rfl) rfl (by show 2 * 0 + _ ≤ _; exact Nat.le_of_eq rfl) (hb hby own_d10_23) (fun _ _ => ⟨rfl, e7, (by decide : 0 + 0 ≤ _), (by decide : 0 + 0 ≤ _)⟩)
  dsimp only [Pt.U, Pt.locs, Pt.cells, Pt.slots] at X9 l9 y9 z9 st9 hQ9
  subst l9 y9 z9
  obtain ⟨rfl, N9q, e9⟩ := hQ9
  have N9 := Fr.app N4 N9q
  obtain ⟨cl10, Ar10, q10, S10, M10, H10, G10⟩ := id Vf
  have hin10 : ¬ ((1 : Int32) < 0 ∨ cl10.slots.size ≤ ((1 : Int32)).toNatClampNeg) := inb_of S10 ⟨by decide, by decide⟩
  obtain ⟨T11, h11, X11, e11, W11, st11⟩ := stJ X9 hx hZ e9 Ar10 (j := (1 : Int32)) hin10 (g := (mkF m 26 #[.val (.ref a), .val (.int (1 : Int32)), .val (.long c1), .second, .val (.long f1), .second] [(.long (if f1 < z1 then f1 else z1)), (.int (1 : Int32)), (.ref pf)])) rfl rfl (hb hby own_d10_26)
  have F_n := F_n.other W11 (Or.inl ne3)
  have F_f := F_f.other W11 (Or.inl ne3)
  have Vn := Vn.other W11 ne1
  have Z12 : n0 ≤ h11.size := Nat.le_trans Z5 (Keep.of_wr W11).1
  have KP := KP.wr W11 (Or.inl (List.mem_of_getElem? (i := 1) rfl))
  have Vf := Arv.set Ar10 q10 S10 M10 H10 G10 rfl W11 1 rfl (Nat.le_of_ble_eq_true rfl)
  have Vf : Arv Z h11 pf kf .long (2 : Int32) [(.long z0), (.long (if f1 < z1 then f1 else z1))] (.long (0 : Int64)) := Vf
  have N11 := Fr.snoc X11 N9 g2
  obtain ⟨fs, hr, hrun, hended, hW, hsame⟩ := X11.leave (v := none) (fun _ => rfl)
  refine ⟨_, _, pre0 _ ?_, hrun, hended, _, _, rfl, ?_, ⟨_, rfl⟩, hW, hsame.mono (by decide) (by decide)⟩
  · show Steps p.tables e below (s₁.setTop (mkF m 0 #[.val (.ref a), .val (.int (1 : Int32)), .val (.long c1), .second, .val (.long f1), .second] [])) _
    refine XS.aloadN X0.here hx rfl (hb hby own_d10_0) rfl rfl ?_
    show Steps p.tables e below (s₁.setTop (mkF m 1 #[.val (.ref a), .val (.int (1 : Int32)), .val (.long c1), .second, .val (.long f1), .second] [(.ref a)])) _
    refine st1 _ ?_
    show Steps p.tables e below (T1.setTop (mkF m 4 #[.val (.ref a), .val (.int (1 : Int32)), .val (.long c1), .second, .val (.long f1), .second] [(.ref pn)])) _
    refine XS.iloadN X1.here hx rfl (hb hby own_d10_4) rfl ?_
    show Steps p.tables e below (T1.setTop (mkF m 5 #[.val (.ref a), .val (.int (1 : Int32)), .val (.long c1), .second, .val (.long f1), .second] [(.int (1 : Int32)), (.ref pn)])) _
    refine XT.dup2 X1.here hx rfl (hb hby own_d10_5) rfl rfl rfl ?_
    show Steps p.tables e below (T1.setTop (mkF m 6 #[.val (.ref a), .val (.int (1 : Int32)), .val (.long c1), .second, .val (.long f1), .second] [(.int (1 : Int32)), (.ref pn), (.int (1 : Int32)), (.ref pn)])) _
    refine X1.laload hx (j := (1 : Int32)) (v := (.long y1)) (by rw [e1]; exact Ar2.1) (State.isArrayOf_alike hZ.alike Ar2.2.1) Ar2.2.2 hin2 (H2.at hin2 rfl) (g := (mkF m 6 #[.val (.ref a), .val (.int (1 : Int32)), .val (.long c1), .second, .val (.long f1), .second] [(.int (1 : Int32)), (.ref pn), (.int (1 : Int32)), (.ref pn)])) rfl rfl (hb hby own_d10_6) _ ?_
    show Steps p.tables e below (T1.setTop (mkF m 7 #[.val (.ref a), .val (.int (1 : Int32)), .val (.long c1), .second, .val (.long f1), .second] [(.long y1), (.int (1 : Int32)), (.ref pn)])) _
    refine XS.lloadN X1.here hx rfl (hb hby own_d10_7) rfl ?_
    show Steps p.tables e below (T1.setTop (mkF m 8 #[.val (.ref a), .val (.int (1 : Int32)), .val (.long c1), .second, .val (.long f1), .second] [(.long c1), (.long y1), (.int (1 : Int32)), (.ref pn)])) _
    refine XS.ladd X1.here hx rfl (hb hby own_d10_8) rfl ?_
    show Steps p.tables e below (T1.setTop (mkF m 9 #[.val (.ref a), .val (.int (1 : Int32)), .val (.long c1), .second, .val (.long f1), .second] [(.long (y1 + c1)), (.int (1 : Int32)), (.ref pn)])) _
    refine st4 _ ?_
    show Steps p.tables e below (T4.setTop (mkF m 10 #[.val (.ref a), .val (.int (1 : Int32)), .val (.long c1), .second, .val (.long f1), .second] [])) _
    refine XS.aloadN X4.here hx rfl (hb hby own_d10_10) rfl rfl ?_
    show Steps p.tables e below (T4.setTop (mkF m 11 #[.val (.ref a), .val (.int (1 : Int32)), .val (.long c1), .second, .val (.long f1), .second] [(.ref a)])) _
    refine st6 _ ?_
    show Steps p.tables e below (T6.setTop (mkF m 14 #[.val (.ref a), .val (.int (1 : Int32)), .val (.long c1), .second, .val (.long f1), .second] [(.ref pf)])) _
    refine XS.iloadN X6.here hx rfl (hb hby own_d10_14) rfl ?_
    show Steps p.tables e below (T6.setTop (mkF m 15 #[.val (.ref a), .val (.int (1 : Int32)), .val (.long c1), .second, .val (.long f1), .second] [(.int (1 : Int32)), (.ref pf)])) _
    refine XS.aloadN X6.here hx rfl (hb hby own_d10_15) rfl rfl ?_
    show Steps p.tables e below (T6.setTop (mkF m 16 #[.val (.ref a), .val (.int (1 : Int32)), .val (.long c1), .second, .val (.long f1), .second] [(.ref a), (.int (1 : Int32)), (.ref pf)])) _
    refine st7 _ ?_
    show Steps p.tables e below (T7.setTop (mkF m 19 #[.val (.ref a), .val (.int (1 : Int32)), .val (.long c1), .second, .val (.long f1), .second] [(.ref pf), (.int (1 : Int32)), (.ref pf)])) _
    refine XS.iloadN X7.here hx rfl (hb hby own_d10_19) rfl ?_
    show Steps p.tables e below (T7.setTop (mkF m 20 #[.val (.ref a), .val (.int (1 : Int32)), .val (.long c1), .second, .val (.long f1), .second] [(.int (1 : Int32)), (.ref pf), (.int (1 : Int32)), (.ref pf)])) _
    refine X7.laload hx (j := (1 : Int32)) (v := (.long z1)) (by rw [e7]; exact Ar8.1) (State.isArrayOf_alike hZ.alike Ar8.2.1) Ar8.2.2 hin8 (H8.at hin8 rfl) (g := (mkF m 20 #[.val (.ref a), .val (.int (1 : Int32)), .val (.long c1), .second, .val (.long f1), .second] [(.int (1 : Int32)), (.ref pf), (.int (1 : Int32)), (.ref pf)])) rfl rfl (hb hby own_d10_20) _ ?_
    show Steps p.tables e below (T7.setTop (mkF m 21 #[.val (.ref a), .val (.int (1 : Int32)), .val (.long c1), .second, .val (.long f1), .second] [(.long z1), (.int (1 : Int32)), (.ref pf)])) _
    refine XS.lload X7.here hx rfl (hb hby own_d10_21) rfl ?_
    show Steps p.tables e below (T7.setTop (mkF m 23 #[.val (.ref a), .val (.int (1 : Int32)), .val (.long c1), .second, .val (.long f1), .second] [(.long f1), (.long z1), (.int (1 : Int32)), (.ref pf)])) _
    refine st9 _ ?_
    show Steps p.tables e below (T9.setTop (mkF m 26 #[.val (.ref a), .val (.int (1 : Int32)), .val (.long c1), .second, .val (.long f1), .second] [(.long (if f1 < z1 then f1 else z1)), (.int (1 : Int32)), (.ref pf)])) _
    refine st11 _ ?_
    show Steps p.tables e below (T11.setTop (mkF m 27 #[.val (.ref a), .val (.int (1 : Int32)), .val (.long c1), .second, .val (.long f1), .second] [])) _
    exact X11.returnOut hx Bd.returns (hb hby own_d10_27) hr
  · show own_Q_own_addN1 Z a c1 f1 pn pf kn kf y0 y1 z0 z1 h0 n0 _ T11.heap _
    rw [e11]
    exact ⟨rfl, N11, KP, Vn, Vf⟩
theorem own_d12_0 : decode prog_101_method_8_code 0 = .ok (.aload_n 0, 1) := by decide +kernel
theorem own_d12_1 : decode prog_101_method_8_code 1 = .ok (.getfield 45, 3) := by decide +kernel
theorem own_d12_4 : decode prog_101_method_8_code 4 = .ok (.ireturn, 1) := by decide +kernel
theorem own_ef12 (m : MethodId) (x0 : Addr) : entryFrame m #[(.ref x0)] 1 = mkF m 0 #[.val (.ref x0)] [] := by first | (simp [entryFrame, mkF, argsToLocals, Value.category]; done) | rfl
def own_Q_own_count (Z : State) (a : Addr) (w : Int32) (h0 : Heap) (n0 : Nat) (v : Option Value) (h : Heap) (L : List Loc) : Prop := v = some (.int w) ∧ Fr n0 L ∧ h = h0
set_option maxRecDepth 65536 in
set_option maxHeartbeats 40000000 in
theorem own_count (l : Launch) (Z : State) (a0 : Array Value) (hw : ∀ d ∈ tables_1, d.before a0 Z = true) (ws : List Jvm.Cond) (a : Addr) (w : Int32) (h0 : Heap) (n0 : Nat) (Z0 : n0 ≤ h0.size) (F : Fld Z h0 a "com/example/synclattice/synclattice/sync/StatePairs" "count" "I" (.int w)) :
    MetFree l (⟨"com/example/synclattice/synclattice/sync/StatePairs", "count", "()I"⟩ : MethodName) (head1 (Jvm.Cond.code (⟨"com/example/synclattice/synclattice/sync/StatePairs", "count", "()I"⟩ : MethodName) prog_101_method_8_code 1 (some .int) :: ws) ({ frames := 0, cells := 0, slots := 0, locals := 0 } : Room)) (fun as_ U => as_ = #[(.ref a)] ∧ Z.Warmed39 U.vm ∧ U.heap = h0) (fun _ _ _ _ _ => True) (fun _ U o U' => ∃ v L, o = .returned v ∧ own_Q_own_count Z a w h0 n0 v U'.heap L ∧ FrameEnd U o U' L ({ frames := 0, cells := 0, slots := 0, locals := 0 } : Room).cells ({ frames := 0, cells := 0, slots := 0, locals := 0 } : Room).slots) := by
  refine MetFree.of_bodySF (plainFor_of_name own_pn0) hisR ?_
  intro p e s m args below meth c s₁ Bd hml0 hP hK
  obtain ⟨rfl, hZ, hh⟩ := hP
  have hx := Bd.exec
  have hby := Bd.bytes
  have hml : c.maxLocals = 1 := hml0
  have hown : s.vm.findClass "com/example/synclattice/synclattice/sync/StatePairs" = some m.cls := findClass_of_methodNamed Bd.named
  have hnm := (name_of_methodNamed Bd.named Bd.method).1
  have X0 : Stand p l e ({ frames := 0, cells := 0, slots := 0, locals := 0 } : Room) s m #[(.ref a)] below meth c s₁ [] 0 0 := Stand.of_body Bd
  have e0 : s₁.heap = h0 := by rw [← hh, Bd.state]; rfl
  have N0 := Fr.nil n0
  have pre0 : ∀ t, Steps p.tables e below (s₁.setTop (mkF m 0 #[.val (.ref a)] [])) t → Steps p.tables e below (s₁.setTop (entryFrame m #[(.ref a)] 1)) t := fun t k => castTop (own_ef12 m a) k
  obtain ⟨T1, X1, e1, st1⟩ := getF X0 hx hZ hown (host := "") (Or.inl (hw _ (List.mem_of_getElem? (i := 38) rfl))) Via.refl e0 F (g := (mkF m 1 #[.val (.ref a)] [(.ref a)])) rfl rfl (hb hby own_d12_1)
  obtain ⟨fs, hr, hrun, hended, hW, hsame⟩ := X1.leave (v := some (.int w)) (fun h => by rw [Bd.returns] at h; cases h)
  refine ⟨_, _, pre0 _ ?_, hrun, hended, _, _, rfl, ?_, ⟨_, rfl⟩, hW, hsame.mono (by decide) (by decide)⟩
  · show Steps p.tables e below (s₁.setTop (mkF m 0 #[.val (.ref a)] [])) _
    refine XS.aloadN X0.here hx rfl (hb hby own_d12_0) rfl rfl ?_
    show Steps p.tables e below (s₁.setTop (mkF m 1 #[.val (.ref a)] [(.ref a)])) _
    refine st1 _ ?_
    show Steps p.tables e below (T1.setTop (mkF m 4 #[.val (.ref a)] [(.int w)])) _
    exact retI X1 hx Bd.returns (hb hby own_d12_4) hr
  · show own_Q_own_count Z a w h0 n0 _ T1.heap _
    rw [e1]
    exact ⟨rfl, N0, rfl⟩
theorem own_pd5 : parseMethodDescriptor "()V" = some ⟨[], none⟩ := by decide +kernel
theorem own_pd6 : parseMethodDescriptor "(IJJ)V" = some ⟨[.int, .long, .long], none⟩ := by decide +kernel
theorem own_pd7 : parseMethodDescriptor "()I" = some ⟨[], some .int⟩ := by decide +kernel
theorem own_pn2 : plainName "com/example/synclattice/synclattice/sync/StatePairsAddNegativesPinLaw" = true := by first | (simp [plainName, overriddenIn]; done) | decide +kernel
theorem own_ef0 (m : MethodId) (x0 : Int32) (x1 : Int64) (x2 : Int64) (x3 : Int64) (x4 : Int64) (x5 : Int64) : entryFrame m #[(.int x0), (.long x1), (.long x2), (.long x3), (.long x4), (.long x5)] maxLocals = mkF m 0 #[.val (.int x0), .val (.long x1), .second, .val (.long x2), .second, .val (.long x3), .second, .val (.long x4), .second, .val (.long x5), .second, .unset, .unset, .unset, .unset, .unset, .unset] [] := by first | (simp [entryFrame, mkF, argsToLocals, Value.category, maxLocals]; done) | rfl
def own_Q_own_law (Z : State) (x1 : Int32) (x2 : Int64) (x3 : Int64) (x4 : Int64) (x5 : Int64) (x6 : Int64) (h0 : Heap) (n0 : Nat) (v : Option Value) (h : Heap) (L : List Loc) : Prop := v = some (.int 1) ∧ Fr n0 L
set_option maxRecDepth 65536 in
set_option maxHeartbeats 40000000 in
theorem own_law (l : Launch) (Z : State) (a0 : Array Value) (hw : ∀ d ∈ tables_1, d.before a0 Z = true) (ws : List Jvm.Cond) (x1 : Int32) (x2 : Int64) (x3 : Int64) (x4 : Int64) (x5 : Int64) (x6 : Int64) (h0 : Heap) (n0 : Nat) (Z0 : n0 ≤ h0.size) :
    MetFree l x (head1 (Jvm.Cond.code x code maxLocals ret :: ws) room_1) (fun as_ U => as_ = #[(.int x1), (.long x2), (.long x3), (.long x4), (.long x5), (.long x6)] ∧ Z.Warmed39 U.vm ∧ U.heap = h0) (fun _ _ _ _ _ => True) (fun _ U o U' => ∃ v L, o = .returned v ∧ own_Q_own_law Z x1 x2 x3 x4 x5 x6 h0 n0 v U'.heap L ∧ FrameEnd U o U' L room_1.cells room_1.slots) := by
  refine MetFree.of_bodySF (plainFor_of_name own_pn2) hisR ?_
  intro p e s m args below meth c s₁ Bd hml0 hP hK
  obtain ⟨rfl, hZ, hh⟩ := hP
  have hx := Bd.exec
  have hby := Bd.bytes
  have hml : c.maxLocals = 17 := hml0
  have hown : s.vm.findClass "com/example/synclattice/synclattice/sync/StatePairsAddNegativesPinLaw" = some m.cls := findClass_of_methodNamed Bd.named
  have hnm := (name_of_methodNamed Bd.named Bd.method).1
  have X0 : Stand p l e room_1 s m #[(.int x1), (.long x2), (.long x3), (.long x4), (.long x5), (.long x6)] below meth c s₁ [] 0 0 := Stand.of_body Bd
  have e0 : s₁.heap = h0 := by rw [← hh, Bd.state]; rfl
  have N0 := Fr.nil n0
  have pre0 : ∀ t, Steps p.tables e below (s₁.setTop (mkF m 0 #[.val (.int x1), .val (.long x2), .second, .val (.long x3), .second, .val (.long x4), .second, .val (.long x5), .second, .val (.long x6), .second, .unset, .unset, .unset, .unset, .unset, .unset] [])) t → Steps p.tables e below (s₁.setTop (entryFrame m #[(.int x1), (.long x2), (.long x3), (.long x4), (.long x5), (.long x6)] maxLocals)) t := fun t k => castTop (own_ef0 m x1 x2 x3 x4 x5 x6) k
  obtain ⟨T1, h1, X1, e1, E1, A1, D1, -, st1⟩ := newO X0 hx hZ hown (hw _ (List.mem_of_getElem? (i := 0) rfl)) (hw _ (List.mem_of_getElem? (i := 1) rfl)) (hw _ (List.mem_of_getElem? (i := 2) rfl)) e0 (g := (mkF m 0 #[.val (.int x1), .val (.long x2), .second, .val (.long x3), .second, .val (.long x4), .second, .val (.long x5), .second, .val (.long x6), .second, .unset, .unset, .unset, .unset, .unset, .unset] [])) rfl (hb hby at_0) (by decide) (by decide)
  obtain ⟨b1, g1⟩ : ∃ z, z = h0.size := ⟨_, rfl⟩
  rw [← g1] at A1 D1 st1
  have g_b1 : n0 ≤ b1 := Nat.le_trans Z0 (Nat.le_of_eq g1.symm)
  have Z2 : n0 ≤ h1.size := Nat.le_trans Z0 E1.1
  have F_positives_b1 : Fld Z h1 b1 "com/example/synclattice/synclattice/sync/StatePairs" "positives" "[J" .null := D1 (Or.inl (hw _ (List.mem_of_getElem? (i := 11) rfl))) (ty := (.array .long)) (by decide)
  have F_negatives_b1 : Fld Z h1 b1 "com/example/synclattice/synclattice/sync/StatePairs" "negatives" "[J" .null := D1 (Or.inl (hw _ (List.mem_of_getElem? (i := 13) rfl))) (ty := (.array .long)) (by decide)
  have F_passes_b1 : Fld Z h1 b1 "com/example/synclattice/synclattice/sync/StatePairs" "passes" "[J" .null := D1 (Or.inl (hw _ (List.mem_of_getElem? (i := 15) rfl))) (ty := (.array .long)) (by decide)
  have F_firstPositives_b1 : Fld Z h1 b1 "com/example/synclattice/synclattice/sync/StatePairs" "firstPositives" "[J" .null := D1 (Or.inl (hw _ (List.mem_of_getElem? (i := 17) rfl))) (ty := (.array .long)) (by decide)
  have F_firstNegatives_b1 : Fld Z h1 b1 "com/example/synclattice/synclattice/sync/StatePairs" "firstNegatives" "[J" .null := D1 (Or.inl (hw _ (List.mem_of_getElem? (i := 19) rfl))) (ty := (.array .long)) (by decide)
  have F_sharedStateOf_b1 : Fld Z h1 b1 "com/example/synclattice/synclattice/sync/StatePairs" "sharedStateOf" "[I" .null := D1 (Or.inl (hw _ (List.mem_of_getElem? (i := 22) rfl))) (ty := (.array .int)) (by decide)
  have F_ownStateOf_b1 : Fld Z h1 b1 "com/example/synclattice/synclattice/sync/StatePairs" "ownStateOf" "[I" .null := D1 (Or.inl (hw _ (List.mem_of_getElem? (i := 24) rfl))) (ty := (.array .int)) (by decide)
  have F_keys_b1 : Fld Z h1 b1 "com/example/synclattice/synclattice/sync/StatePairs" "keys" "[J" .null := D1 (Or.inl (hw _ (List.mem_of_getElem? (i := 26) rfl))) (ty := (.array .long)) (by decide)
  have F_numbers_b1 : Fld Z h1 b1 "com/example/synclattice/synclattice/sync/StatePairs" "numbers" "[I" .null := D1 (Or.inl (hw _ (List.mem_of_getElem? (i := 28) rfl))) (ty := (.array .int)) (by decide)
  have F_slotOf_b1 : Fld Z h1 b1 "com/example/synclattice/synclattice/sync/StatePairs" "slotOf" "[I" .null := D1 (Or.inl (hw _ (List.mem_of_getElem? (i := 30) rfl))) (ty := (.array .int)) (by decide)
  have F_sharedStates_b1 : Fld Z h1 b1 "com/example/synclattice/synclattice/sync/StatePairs" "sharedStates" "I" (.int (0 : Int32)) := D1 (Or.inl (hw _ (List.mem_of_getElem? (i := 37) rfl))) (ty := .int) (by decide)
  have F_count_b1 : Fld Z h1 b1 "com/example/synclattice/synclattice/sync/StatePairs" "count" "I" (.int (0 : Int32)) := D1 (Or.inl (hw _ (List.mem_of_getElem? (i := 39) rfl))) (ty := .int) (by decide)
  have E_b1 := A1
  obtain ⟨_, _, ⟨T3, L3, k3, n3⟩, -, X3, ⟨Lc3, hQ3, l3, y3, z3⟩, st3⟩ := X1.specialBack hx (y := (⟨"com/example/synclattice/synclattice/sync/StatePairs", "<init>", "()V"⟩ : MethodName)) rfl hown (mvT hZ (hw _ (List.mem_of_getElem? (i := 3) rfl))) (mvT hZ (hw _ (List.mem_of_getElem? (i := 4) rfl))) (mvT hZ (hw _ (List.mem_of_getElem? (i := 5) rfl))) (by decide) (backOf (W := 1) (own_init l Z a0 hw [] b1  h1 n0 Z2 E_b1 F_positives_b1 F_negatives_b1 F_passes_b1 F_firstPositives_b1 F_firstNegatives_b1 F_sharedStateOf_b1 F_ownStateOf_b1 F_slotOf_b1 F_keys_b1 F_numbers_b1 F_sharedStates_b1 F_count_b1 g_b1) hZ (hw _ (List.mem_of_getElem? (i := 5) rfl)) (hw _ (List.mem_of_getElem? (i := 2) rfl)) (by decide) (by decide)) (g := (mkF m 4 #[.val (.int x1), .val (.long x2), .second, .val (.long x3), .second, .val (.long x4), .second, .val (.long x5), .second, .val (.long x6), .second, .unset, .unset, .unset, .unset, .unset, .unset] [(.ref b1), (.ref b1)])) rfl (by rw [hml]; rfl) (Steps.refl _) (a := b1) (argsL := []) (rest := [(.ref b1)]) (lenOf own_pd5 rfl) rfl (by show 2 * 0 + _ ≤ _; exact Nat.le_of_eq rfl) (hb hby at_4) (fun _ _ => ⟨rfl, e1, (by decide : 1 + 10 ≤ _), (by decide : 12 + 32 ≤ _)⟩)
  dsimp only [Pt.U, Pt.locs, Pt.cells, Pt.slots] at X3 l3 y3 z3 st3 hQ3
  subst l3 y3 z3
  obtain ⟨p3_0, p3_1, p3_2, p3_3, p3_4, p3_5, p3_6, p3_7, j3_0, j3_1, j3_2, j3_3, j3_4, j3_5, j3_6, j3_7, rfl, N3q, K3, Ee3, F3_0, F3_1, F3_2, F3_3, F3_4, F3_5, F3_6, F3_7, Fs3, Fc3, V3_0, V3_1, V3_2, V3_3, V3_4, V3_5, V3_6, V3_7⟩ := hQ3
  have N3 := Fr.app N0 N3q
  have E_b1 := E_b1.keep K3
  have Z4 := Nat.le_trans Z2 K3.1
  obtain ⟨cq5, kq5, q5a, q5b, q5c⟩ := isOf hZ rfl Ee3
  obtain ⟨_, _, ⟨T5, L5, k5, n5⟩, -, X5, ⟨Lc5, hQ5, l5, y5, z5⟩, st5⟩ := X3.virtualBack hx (y := (⟨"com/example/synclattice/synclattice/sync/StatePairs", "clear", "(I)V"⟩ : MethodName)) (z := (⟨"com/example/synclattice/synclattice/sync/StatePairs", "clear", "(I)V"⟩ : MethodName)) hown (mvT hZ (hw _ (List.mem_of_getElem? (i := 31) rfl))) (mvT hZ (hw _ (List.mem_of_getElem? (i := 32) rfl))) (notFace_of_selects (args := #[]) (mvT hZ (hw _ (List.mem_of_getElem? (i := 34) rfl)))) (mvT hZ (hw _ (List.mem_of_getElem? (i := 34) rfl))) (mvT hZ (hw _ (List.mem_of_getElem? (i := 33) rfl))) (by decide) (backOf (W := 0) (own_clear l Z a0 hw [] b1 p3_0 p3_1 p3_2 p3_3 p3_4 p3_5 p3_6 p3_7 j3_0 j3_1 j3_2 j3_3 j3_4 j3_5 j3_6 j3_7 T3.heap n0 Z4 Ee3 F3_0 F3_1 F3_2 F3_3 F3_4 F3_5 F3_6 F3_7 Fc3 V3_0 V3_1 V3_2 V3_3 V3_4 V3_5 V3_6 V3_7 g_b1 Fs3) hZ (hw _ (List.mem_of_getElem? (i := 35) rfl)) (hw _ (List.mem_of_getElem? (i := 2) rfl)) (by decide) (by decide)) q5a q5c (g := (mkF m 12 #[.val (.int x1), .val (.long x2), .second, .val (.long x3), .second, .val (.long x4), .second, .val (.long x5), .second, .val (.long x6), .second, .val (.ref b1), .unset, .unset, .unset, .unset, .unset] [(.int (2 : Int32)), (.ref b1)])) rfl (by rw [hml]; rfl) (Steps.refl _) (argsL := [(.int (2 : Int32))]) (rest := []) (lenOf own_pd3 rfl) rfl (by show 2 * 0 + _ ≤ _; exact Nat.le_of_eq rfl) (hb hby at_12) (fun _ _ => ⟨rfl, rfl, (by decide : 11 + 8 ≤ _), (by decide : 44 + 16 ≤ _)⟩)
  dsimp only [Pt.U, Pt.locs, Pt.cells, Pt.slots] at X5 l5 y5 z5 st5 hQ5
  subst l5 y5 z5
  obtain ⟨b5_0, b5_1, b5_2, b5_3, b5_4, j5_0, j5_1, j5_2, j5_3, j5_4, rfl, N5q, K5, Ee5, F5_0, F5_1, F5_2, F5_3, F5_4, Fc5, V5_0, V5_1, V5_2, V5_3, V5_4, m5_0_1, m5_0_2, m5_0_3, m5_0_4, m5_1_2, m5_1_3, m5_1_4, m5_2_3, m5_2_4, m5_3_4, sz5_0, sz5_1, sz5_2, sz5_3, sz5_4⟩ := hQ5
  have N5 := Fr.app N3 N5q
  have g_b5_0 : n0 ≤ b5_0 := Nat.le_trans Z4 sz5_0
  have ne_b1_b5_0 : b1 ≠ b5_0 := Nat.ne_of_lt (Nat.lt_of_lt_of_le Ee3.lt sz5_0)
  have ne_p3_0_b5_0 : p3_0 ≠ b5_0 := Nat.ne_of_lt (Nat.lt_of_lt_of_le V3_0.lt sz5_0)
  have ne_p3_1_b5_0 : p3_1 ≠ b5_0 := Nat.ne_of_lt (Nat.lt_of_lt_of_le V3_1.lt sz5_0)
  have ne_p3_2_b5_0 : p3_2 ≠ b5_0 := Nat.ne_of_lt (Nat.lt_of_lt_of_le V3_2.lt sz5_0)
  have ne_p3_3_b5_0 : p3_3 ≠ b5_0 := Nat.ne_of_lt (Nat.lt_of_lt_of_le V3_3.lt sz5_0)
  have ne_p3_4_b5_0 : p3_4 ≠ b5_0 := Nat.ne_of_lt (Nat.lt_of_lt_of_le V3_4.lt sz5_0)
  have ne_p3_5_b5_0 : p3_5 ≠ b5_0 := Nat.ne_of_lt (Nat.lt_of_lt_of_le V3_5.lt sz5_0)
  have ne_p3_6_b5_0 : p3_6 ≠ b5_0 := Nat.ne_of_lt (Nat.lt_of_lt_of_le V3_6.lt sz5_0)
  have ne_p3_7_b5_0 : p3_7 ≠ b5_0 := Nat.ne_of_lt (Nat.lt_of_lt_of_le V3_7.lt sz5_0)
  have g_b5_1 : n0 ≤ b5_1 := Nat.le_trans Z4 sz5_1
  have ne_b1_b5_1 : b1 ≠ b5_1 := Nat.ne_of_lt (Nat.lt_of_lt_of_le Ee3.lt sz5_1)
  have ne_p3_0_b5_1 : p3_0 ≠ b5_1 := Nat.ne_of_lt (Nat.lt_of_lt_of_le V3_0.lt sz5_1)
  have ne_p3_1_b5_1 : p3_1 ≠ b5_1 := Nat.ne_of_lt (Nat.lt_of_lt_of_le V3_1.lt sz5_1)
  have ne_p3_2_b5_1 : p3_2 ≠ b5_1 := Nat.ne_of_lt (Nat.lt_of_lt_of_le V3_2.lt sz5_1)
  have ne_p3_3_b5_1 : p3_3 ≠ b5_1 := Nat.ne_of_lt (Nat.lt_of_lt_of_le V3_3.lt sz5_1)
  have ne_p3_4_b5_1 : p3_4 ≠ b5_1 := Nat.ne_of_lt (Nat.lt_of_lt_of_le V3_4.lt sz5_1)
  have ne_p3_5_b5_1 : p3_5 ≠ b5_1 := Nat.ne_of_lt (Nat.lt_of_lt_of_le V3_5.lt sz5_1)
  have ne_p3_6_b5_1 : p3_6 ≠ b5_1 := Nat.ne_of_lt (Nat.lt_of_lt_of_le V3_6.lt sz5_1)
  have ne_p3_7_b5_1 : p3_7 ≠ b5_1 := Nat.ne_of_lt (Nat.lt_of_lt_of_le V3_7.lt sz5_1)
  have g_b5_2 : n0 ≤ b5_2 := Nat.le_trans Z4 sz5_2
  have ne_b1_b5_2 : b1 ≠ b5_2 := Nat.ne_of_lt (Nat.lt_of_lt_of_le Ee3.lt sz5_2)
  have ne_p3_0_b5_2 : p3_0 ≠ b5_2 := Nat.ne_of_lt (Nat.lt_of_lt_of_le V3_0.lt sz5_2)
  have ne_p3_1_b5_2 : p3_1 ≠ b5_2 := Nat.ne_of_lt (Nat.lt_of_lt_of_le V3_1.lt sz5_2)
  have ne_p3_2_b5_2 : p3_2 ≠ b5_2 := Nat.ne_of_lt (Nat.lt_of_lt_of_le V3_2.lt sz5_2)
  have ne_p3_3_b5_2 : p3_3 ≠ b5_2 := Nat.ne_of_lt (Nat.lt_of_lt_of_le V3_3.lt sz5_2)
  have ne_p3_4_b5_2 : p3_4 ≠ b5_2 := Nat.ne_of_lt (Nat.lt_of_lt_of_le V3_4.lt sz5_2)
  have ne_p3_5_b5_2 : p3_5 ≠ b5_2 := Nat.ne_of_lt (Nat.lt_of_lt_of_le V3_5.lt sz5_2)
  have ne_p3_6_b5_2 : p3_6 ≠ b5_2 := Nat.ne_of_lt (Nat.lt_of_lt_of_le V3_6.lt sz5_2)
  have ne_p3_7_b5_2 : p3_7 ≠ b5_2 := Nat.ne_of_lt (Nat.lt_of_lt_of_le V3_7.lt sz5_2)
  have g_b5_3 : n0 ≤ b5_3 := Nat.le_trans Z4 sz5_3
  have ne_b1_b5_3 : b1 ≠ b5_3 := Nat.ne_of_lt (Nat.lt_of_lt_of_le Ee3.lt sz5_3)
  have ne_p3_0_b5_3 : p3_0 ≠ b5_3 := Nat.ne_of_lt (Nat.lt_of_lt_of_le V3_0.lt sz5_3)
  have ne_p3_1_b5_3 : p3_1 ≠ b5_3 := Nat.ne_of_lt (Nat.lt_of_lt_of_le V3_1.lt sz5_3)
  have ne_p3_2_b5_3 : p3_2 ≠ b5_3 := Nat.ne_of_lt (Nat.lt_of_lt_of_le V3_2.lt sz5_3)
  have ne_p3_3_b5_3 : p3_3 ≠ b5_3 := Nat.ne_of_lt (Nat.lt_of_lt_of_le V3_3.lt sz5_3)
  have ne_p3_4_b5_3 : p3_4 ≠ b5_3 := Nat.ne_of_lt (Nat.lt_of_lt_of_le V3_4.lt sz5_3)
  have ne_p3_5_b5_3 : p3_5 ≠ b5_3 := Nat.ne_of_lt (Nat.lt_of_lt_of_le V3_5.lt sz5_3)
  have ne_p3_6_b5_3 : p3_6 ≠ b5_3 := Nat.ne_of_lt (Nat.lt_of_lt_of_le V3_6.lt sz5_3)
  have ne_p3_7_b5_3 : p3_7 ≠ b5_3 := Nat.ne_of_lt (Nat.lt_of_lt_of_le V3_7.lt sz5_3)
  have g_b5_4 : n0 ≤ b5_4 := Nat.le_trans Z4 sz5_4
  have ne_b1_b5_4 : b1 ≠ b5_4 := Nat.ne_of_lt (Nat.lt_of_lt_of_le Ee3.lt sz5_4)
  have ne_p3_0_b5_4 : p3_0 ≠ b5_4 := Nat.ne_of_lt (Nat.lt_of_lt_of_le V3_0.lt sz5_4)
  have ne_p3_1_b5_4 : p3_1 ≠ b5_4 := Nat.ne_of_lt (Nat.lt_of_lt_of_le V3_1.lt sz5_4)
  have ne_p3_2_b5_4 : p3_2 ≠ b5_4 := Nat.ne_of_lt (Nat.lt_of_lt_of_le V3_2.lt sz5_4)
  have ne_p3_3_b5_4 : p3_3 ≠ b5_4 := Nat.ne_of_lt (Nat.lt_of_lt_of_le V3_3.lt sz5_4)
  have ne_p3_4_b5_4 : p3_4 ≠ b5_4 := Nat.ne_of_lt (Nat.lt_of_lt_of_le V3_4.lt sz5_4)
  have ne_p3_5_b5_4 : p3_5 ≠ b5_4 := Nat.ne_of_lt (Nat.lt_of_lt_of_le V3_5.lt sz5_4)
  have ne_p3_6_b5_4 : p3_6 ≠ b5_4 := Nat.ne_of_lt (Nat.lt_of_lt_of_le V3_6.lt sz5_4)
  have ne_p3_7_b5_4 : p3_7 ≠ b5_4 := Nat.ne_of_lt (Nat.lt_of_lt_of_le V3_7.lt sz5_4)
  have ne_b1_p3_0 : b1 ≠ p3_0 := Exa.neArv Ee3 V3_0 (hw _ (List.mem_of_getElem? (i := 1) rfl))
  have ne_b1_p3_1 : b1 ≠ p3_1 := Exa.neArv Ee3 V3_1 (hw _ (List.mem_of_getElem? (i := 1) rfl))
  have ne_b1_p3_2 : b1 ≠ p3_2 := Exa.neArv Ee3 V3_2 (hw _ (List.mem_of_getElem? (i := 1) rfl))
  have ne_b1_p3_3 : b1 ≠ p3_3 := Exa.neArv Ee3 V3_3 (hw _ (List.mem_of_getElem? (i := 1) rfl))
  have ne_b1_p3_4 : b1 ≠ p3_4 := Exa.neArv Ee3 V3_4 (hw _ (List.mem_of_getElem? (i := 1) rfl))
  have ne_b1_p3_5 : b1 ≠ p3_5 := Exa.neArv Ee3 V3_5 (hw _ (List.mem_of_getElem? (i := 1) rfl))
  have ne_b1_p3_6 : b1 ≠ p3_6 := Exa.neArv Ee3 V3_6 (hw _ (List.mem_of_getElem? (i := 1) rfl))
  have ne_b1_p3_7 : b1 ≠ p3_7 := Exa.neArv Ee3 V3_7 (hw _ (List.mem_of_getElem? (i := 1) rfl))
  have Ee3 := Ee3.keep K5
  have V3_0 := V3_0.keep K5 (ninS (Ne.symm ne_b1_p3_0) nin0)
  have V3_1 := V3_1.keep K5 (ninS (Ne.symm ne_b1_p3_1) nin0)
  have V3_2 := V3_2.keep K5 (ninS (Ne.symm ne_b1_p3_2) nin0)
  have V3_3 := V3_3.keep K5 (ninS (Ne.symm ne_b1_p3_3) nin0)
  have V3_4 := V3_4.keep K5 (ninS (Ne.symm ne_b1_p3_4) nin0)
  have V3_5 := V3_5.keep K5 (ninS (Ne.symm ne_b1_p3_5) nin0)
  have V3_6 := V3_6.keep K5 (ninS (Ne.symm ne_b1_p3_6) nin0)
  have V3_7 := V3_7.keep K5 (ninS (Ne.symm ne_b1_p3_7) nin0)
  have Z6 := Nat.le_trans Z4 K5.1
  have pre7 : ∀ t, Steps p.tables e below (T5.setTop (mkF m 18 #[.val (.int x1), .val (.long x2), .second, .val (.long x3), .second, .val (.long x4), .second, .val (.long x5), .second, .val (.long x6), .second, .val (.ref b1), .unset, .unset, .unset, .unset, .unset] [(.int (x1 &&& (1 : Int32)))])) t → Steps p.tables e below (s₁.setTop (entryFrame m #[(.int x1), (.long x2), (.long x3), (.long x4), (.long x5), (.long x6)] maxLocals)) t := fun t k => pre0 t (by
    show Steps p.tables e below (s₁.setTop (mkF m 0 #[.val (.int x1), .val (.long x2), .second, .val (.long x3), .second, .val (.long x4), .second, .val (.long x5), .second, .val (.long x6), .second, .unset, .unset, .unset, .unset, .unset, .unset] [])) _
    refine st1 _ ?_
    show Steps p.tables e below (T1.setTop (mkF m 3 #[.val (.int x1), .val (.long x2), .second, .val (.long x3), .second, .val (.long x4), .second, .val (.long x5), .second, .val (.long x6), .second, .unset, .unset, .unset, .unset, .unset, .unset] [(.ref b1)])) _
    refine XS.dup X1.here hx rfl (hb hby at_3) rfl rfl ?_
    show Steps p.tables e below (T1.setTop (mkF m 4 #[.val (.int x1), .val (.long x2), .second, .val (.long x3), .second, .val (.long x4), .second, .val (.long x5), .second, .val (.long x6), .second, .unset, .unset, .unset, .unset, .unset, .unset] [(.ref b1), (.ref b1)])) _
    refine st3.trans ?_
    show Steps p.tables e below (T3.setTop (mkF m 7 #[.val (.int x1), .val (.long x2), .second, .val (.long x3), .second, .val (.long x4), .second, .val (.long x5), .second, .val (.long x6), .second, .unset, .unset, .unset, .unset, .unset, .unset] [(.ref b1)])) _
    refine XS.astore X3.here hx rfl (hb hby at_7) rfl rfl (l' := #[.val (.int x1), .val (.long x2), .second, .val (.long x3), .second, .val (.long x4), .second, .val (.long x5), .second, .val (.long x6), .second, .val (.ref b1), .unset, .unset, .unset, .unset, .unset]) rfl ?_
    show Steps p.tables e below (T3.setTop (mkF m 9 #[.val (.int x1), .val (.long x2), .second, .val (.long x3), .second, .val (.long x4), .second, .val (.long x5), .second, .val (.long x6), .second, .val (.ref b1), .unset, .unset, .unset, .unset, .unset] [])) _
    refine XS.aload X3.here hx rfl (hb hby at_9) rfl rfl ?_
    show Steps p.tables e below (T3.setTop (mkF m 11 #[.val (.int x1), .val (.long x2), .second, .val (.long x3), .second, .val (.long x4), .second, .val (.long x5), .second, .val (.long x6), .second, .val (.ref b1), .unset, .unset, .unset, .unset, .unset] [(.ref b1)])) _
    refine XS.iconst X3.here hx rfl (hb hby at_11) ?_
    show Steps p.tables e below (T3.setTop (mkF m 12 #[.val (.int x1), .val (.long x2), .second, .val (.long x3), .second, .val (.long x4), .second, .val (.long x5), .second, .val (.long x6), .second, .val (.ref b1), .unset, .unset, .unset, .unset, .unset] [(.int (2 : Int32)), (.ref b1)])) _
    refine st5.trans ?_
    show Steps p.tables e below (T5.setTop (mkF m 15 #[.val (.int x1), .val (.long x2), .second, .val (.long x3), .second, .val (.long x4), .second, .val (.long x5), .second, .val (.long x6), .second, .val (.ref b1), .unset, .unset, .unset, .unset, .unset] [])) _
    refine XS.iloadN X5.here hx rfl (hb hby at_15) rfl ?_
    show Steps p.tables e below (T5.setTop (mkF m 16 #[.val (.int x1), .val (.long x2), .second, .val (.long x3), .second, .val (.long x4), .second, .val (.long x5), .second, .val (.long x6), .second, .val (.ref b1), .unset, .unset, .unset, .unset, .unset] [(.int x1)])) _
    refine XS.iconst X5.here hx rfl (hb hby at_16) ?_
    show Steps p.tables e below (T5.setTop (mkF m 17 #[.val (.int x1), .val (.long x2), .second, .val (.long x3), .second, .val (.long x4), .second, .val (.long x5), .second, .val (.long x6), .second, .val (.ref b1), .unset, .unset, .unset, .unset, .unset] [(.int (1 : Int32)), (.int x1)])) _
    refine XS.iand X5.here hx rfl (hb hby at_17) rfl ?_
    exact k)
  by_cases hc8 : (x1 &&& (1 : Int32)) = (0 : Int32)
  · skip
    obtain ⟨T9, X9, e9, st9⟩ := getF X5 hx hZ hown (host := "") (Or.inl (hw _ (List.mem_of_getElem? (i := 67) rfl))) Via.refl rfl F5_1 (g := (mkF m 28 #[.val (.int x1), .val (.long x2), .second, .val (.long x3), .second, .val (.long x4), .second, .val (.long x5), .second, .val (.long x6), .second, .val (.ref b1), .val (.int (0 : Int32)), .val (.int (1 : Int32)), .unset, .unset, .unset] [(.ref b1)])) rfl rfl (hb hby at_28)
    obtain ⟨cl10, Ar10, q10, S10, M10, H10, G10⟩ := id V5_1
    have hin10 : ¬ ((0 : Int32) < 0 ∨ cl10.slots.size ≤ ((0 : Int32)).toNatClampNeg) := inb_of S10 ⟨by decide, by decide⟩
    obtain ⟨T11, h11, X11, e11, W11, st11⟩ := stJ X9 hx hZ e9 Ar10 (j := (0 : Int32)) hin10 (g := (mkF m 34 #[.val (.int x1), .val (.long x2), .second, .val (.long x3), .second, .val (.long x4), .second, .val (.long x5), .second, .val (.long x6), .second, .val (.ref b1), .val (.int (0 : Int32)), .val (.int (1 : Int32)), .unset, .unset, .unset] [(.long x2), (.int (0 : Int32)), (.ref b5_1)])) rfl rfl (hb hby at_34)
    have Ee5 := Ee5.wr W11
    have Fc5 := Fc5.other W11 (Or.inl ne_b1_b5_1)
    have F5_0 := F5_0.other W11 (Or.inl ne_b1_b5_1)
    have V5_0 := V5_0.other W11 m5_0_1
    have F5_1 := F5_1.other W11 (Or.inl ne_b1_b5_1)
    have F5_2 := F5_2.other W11 (Or.inl ne_b1_b5_1)
    have V5_2 := V5_2.other W11 (Ne.symm m5_1_2)
    have F5_3 := F5_3.other W11 (Or.inl ne_b1_b5_1)
    have V5_3 := V5_3.other W11 (Ne.symm m5_1_3)
    have F5_4 := F5_4.other W11 (Or.inl ne_b1_b5_1)
    have V5_4 := V5_4.other W11 (Ne.symm m5_1_4)
    have Z12 : n0 ≤ h11.size := Nat.le_trans Z6 (Keep.of_wr W11).1
    have V5_1 := Arv.set Ar10 q10 S10 M10 H10 G10 rfl W11 0 rfl (Nat.le_of_ble_eq_true rfl)
    have V5_1 : Arv Z h11 b5_1 j5_1 .long (2 : Int32) [(.long x2), (.long (0 : Int64))] (.long (0 : Int64)) := V5_1
    have N11 := Fr.snoc X11 N5 g_b5_1
    obtain ⟨T13, X13, e13, st13⟩ := getF X11 hx hZ hown (host := "") (Or.inl (hw _ (List.mem_of_getElem? (i := 68) rfl))) Via.refl e11 F5_4 (g := (mkF m 37 #[.val (.int x1), .val (.long x2), .second, .val (.long x3), .second, .val (.long x4), .second, .val (.long x5), .second, .val (.long x6), .second, .val (.ref b1), .val (.int (0 : Int32)), .val (.int (1 : Int32)), .unset, .unset, .unset] [(.ref b1)])) rfl rfl (hb hby at_37)
    obtain ⟨cl14, Ar14, q14, S14, M14, H14, G14⟩ := id V5_4
    have hin14 : ¬ ((0 : Int32) < 0 ∨ cl14.slots.size ≤ ((0 : Int32)).toNatClampNeg) := inb_of S14 ⟨by decide, by decide⟩
    obtain ⟨T15, h15, X15, e15, W15, st15⟩ := stJ X13 hx hZ e13 Ar14 (j := (0 : Int32)) hin14 (g := (mkF m 44 #[.val (.int x1), .val (.long x2), .second, .val (.long x3), .second, .val (.long x4), .second, .val (.long x5), .second, .val (.long x6), .second, .val (.ref b1), .val (.int (0 : Int32)), .val (.int (1 : Int32)), .unset, .unset, .unset] [(.long x4), (.int (0 : Int32)), (.ref b5_4)])) rfl rfl (hb hby at_44)
    have Ee5 := Ee5.wr W15
    have Fc5 := Fc5.other W15 (Or.inl ne_b1_b5_4)
    have F5_0 := F5_0.other W15 (Or.inl ne_b1_b5_4)
    have V5_0 := V5_0.other W15 m5_0_4
    have F5_1 := F5_1.other W15 (Or.inl ne_b1_b5_4)
    have V5_1 := V5_1.other W15 m5_1_4
    have F5_2 := F5_2.other W15 (Or.inl ne_b1_b5_4)
    have V5_2 := V5_2.other W15 m5_2_4
    have F5_3 := F5_3.other W15 (Or.inl ne_b1_b5_4)
    have V5_3 := V5_3.other W15 m5_3_4
    have F5_4 := F5_4.other W15 (Or.inl ne_b1_b5_4)
    have Z16 : n0 ≤ h15.size := Nat.le_trans Z12 (Keep.of_wr W15).1
    have V5_4 := Arv.set Ar14 q14 S14 M14 H14 G14 rfl W15 0 rfl (Nat.le_of_ble_eq_true rfl)
    have V5_4 : Arv Z h15 b5_4 j5_4 .long (2 : Int32) [(.long x4), (.long (9223372036854775807 : Int64))] (.long (0 : Int64)) := V5_4
    have N15 := Fr.snoc X15 N11 g_b5_4
    obtain ⟨T17, X17, e17, st17⟩ := getF X15 hx hZ hown (host := "") (Or.inl (hw _ (List.mem_of_getElem? (i := 67) rfl))) Via.refl e15 F5_1 (g := (mkF m 47 #[.val (.int x1), .val (.long x2), .second, .val (.long x3), .second, .val (.long x4), .second, .val (.long x5), .second, .val (.long x6), .second, .val (.ref b1), .val (.int (0 : Int32)), .val (.int (1 : Int32)), .unset, .unset, .unset] [(.ref b1)])) rfl rfl (hb hby at_47)
    obtain ⟨cl18, Ar18, q18, S18, M18, H18, G18⟩ := id V5_1
    have hin18 : ¬ ((1 : Int32) < 0 ∨ cl18.slots.size ≤ ((1 : Int32)).toNatClampNeg) := inb_of S18 ⟨by decide, by decide⟩
    obtain ⟨T19, h19, X19, e19, W19, st19⟩ := stJ X17 hx hZ e17 Ar18 (j := (1 : Int32)) hin18 (g := (mkF m 54 #[.val (.int x1), .val (.long x2), .second, .val (.long x3), .second, .val (.long x4), .second, .val (.long x5), .second, .val (.long x6), .second, .val (.ref b1), .val (.int (0 : Int32)), .val (.int (1 : Int32)), .unset, .unset, .unset] [(.long x6), (.int (1 : Int32)), (.ref b5_1)])) rfl rfl (hb hby at_54)
    have Ee5 := Ee5.wr W19
    have Fc5 := Fc5.other W19 (Or.inl ne_b1_b5_1)
    have F5_0 := F5_0.other W19 (Or.inl ne_b1_b5_1)
    have V5_0 := V5_0.other W19 m5_0_1
    have F5_1 := F5_1.other W19 (Or.inl ne_b1_b5_1)
    have F5_2 := F5_2.other W19 (Or.inl ne_b1_b5_1)
    have V5_2 := V5_2.other W19 (Ne.symm m5_1_2)
    have F5_3 := F5_3.other W19 (Or.inl ne_b1_b5_1)
    have V5_3 := V5_3.other W19 (Ne.symm m5_1_3)
    have F5_4 := F5_4.other W19 (Or.inl ne_b1_b5_1)
    have V5_4 := V5_4.other W19 (Ne.symm m5_1_4)
    have Z20 : n0 ≤ h19.size := Nat.le_trans Z16 (Keep.of_wr W19).1
    have V5_1 := Arv.set Ar18 q18 S18 M18 H18 G18 rfl W19 1 rfl (Nat.le_of_ble_eq_true rfl)
    have V5_1 : Arv Z h19 b5_1 j5_1 .long (2 : Int32) [(.long x2), (.long x6)] (.long (0 : Int64)) := V5_1
    have N19 := Fr.snoc X19 N15 g_b5_1
    obtain ⟨T21, X21, e21, st21⟩ := getF X19 hx hZ hown (host := "") (Or.inl (hw _ (List.mem_of_getElem? (i := 68) rfl))) Via.refl e19 F5_4 (g := (mkF m 57 #[.val (.int x1), .val (.long x2), .second, .val (.long x3), .second, .val (.long x4), .second, .val (.long x5), .second, .val (.long x6), .second, .val (.ref b1), .val (.int (0 : Int32)), .val (.int (1 : Int32)), .unset, .unset, .unset] [(.ref b1)])) rfl rfl (hb hby at_57)
    obtain ⟨cl22, Ar22, q22, S22, M22, H22, G22⟩ := id V5_4
    have hin22 : ¬ ((1 : Int32) < 0 ∨ cl22.slots.size ≤ ((1 : Int32)).toNatClampNeg) := inb_of S22 ⟨by decide, by decide⟩
    obtain ⟨T23, h23, X23, e23, W23, st23⟩ := stJ X21 hx hZ e21 Ar22 (j := (1 : Int32)) hin22 (g := (mkF m 68 #[.val (.int x1), .val (.long x2), .second, .val (.long x3), .second, .val (.long x4), .second, .val (.long x5), .second, .val (.long x6), .second, .val (.ref b1), .val (.int (0 : Int32)), .val (.int (1 : Int32)), .unset, .unset, .unset] [(.long (x6 ^^^ (-1 : Int64))), (.int (1 : Int32)), (.ref b5_4)])) rfl rfl (hb hby at_68)
    have Ee5 := Ee5.wr W23
    have Fc5 := Fc5.other W23 (Or.inl ne_b1_b5_4)
    have F5_0 := F5_0.other W23 (Or.inl ne_b1_b5_4)
    have V5_0 := V5_0.other W23 m5_0_4
    have F5_1 := F5_1.other W23 (Or.inl ne_b1_b5_4)
    have V5_1 := V5_1.other W23 m5_1_4
    have F5_2 := F5_2.other W23 (Or.inl ne_b1_b5_4)
    have V5_2 := V5_2.other W23 m5_2_4
    have F5_3 := F5_3.other W23 (Or.inl ne_b1_b5_4)
    have V5_3 := V5_3.other W23 m5_3_4
    have F5_4 := F5_4.other W23 (Or.inl ne_b1_b5_4)
    have Z24 : n0 ≤ h23.size := Nat.le_trans Z20 (Keep.of_wr W23).1
    have V5_4 := Arv.set Ar22 q22 S22 M22 H22 G22 rfl W23 1 rfl (Nat.le_of_ble_eq_true rfl)
    have V5_4 : Arv Z h23 b5_4 j5_4 .long (2 : Int32) [(.long x4), (.long (x6 ^^^ (-1 : Int64)))] (.long (0 : Int64)) := V5_4
    have N23 := Fr.snoc X23 N19 g_b5_4
    obtain ⟨T25, X25, e25, st25⟩ := getF X23 hx hZ hown (host := "") (Or.inl (hw _ (List.mem_of_getElem? (i := 70) rfl))) Via.refl e23 F5_0 (g := (mkF m 71 #[.val (.int x1), .val (.long x2), .second, .val (.long x3), .second, .val (.long x4), .second, .val (.long x5), .second, .val (.long x6), .second, .val (.ref b1), .val (.int (0 : Int32)), .val (.int (1 : Int32)), .unset, .unset, .unset] [(.ref b1)])) rfl rfl (hb hby at_71)
    obtain ⟨cl26, Ar26, q26, S26, M26, H26, G26⟩ := id V5_0
    have hin26 : ¬ ((0 : Int32) < 0 ∨ cl26.slots.size ≤ ((0 : Int32)).toNatClampNeg) := inb_of S26 ⟨by decide, by decide⟩
    obtain ⟨T27, h27, X27, e27, W27, st27⟩ := stJ X25 hx hZ e25 Ar26 (j := (0 : Int32)) hin26 (g := (mkF m 82 #[.val (.int x1), .val (.long x2), .second, .val (.long x3), .second, .val (.long x4), .second, .val (.long x5), .second, .val (.long x6), .second, .val (.ref b1), .val (.int (0 : Int32)), .val (.int (1 : Int32)), .unset, .unset, .unset] [(.long (x6 ^^^ (5 : Int64))), (.int (0 : Int32)), (.ref b5_0)])) rfl rfl (hb hby at_82)
    have Ee5 := Ee5.wr W27
    have Fc5 := Fc5.other W27 (Or.inl ne_b1_b5_0)
    have F5_0 := F5_0.other W27 (Or.inl ne_b1_b5_0)
    have F5_1 := F5_1.other W27 (Or.inl ne_b1_b5_0)
    have V5_1 := V5_1.other W27 (Ne.symm m5_0_1)
    have F5_2 := F5_2.other W27 (Or.inl ne_b1_b5_0)
    have V5_2 := V5_2.other W27 (Ne.symm m5_0_2)
    have F5_3 := F5_3.other W27 (Or.inl ne_b1_b5_0)
    have V5_3 := V5_3.other W27 (Ne.symm m5_0_3)
    have F5_4 := F5_4.other W27 (Or.inl ne_b1_b5_0)
    have V5_4 := V5_4.other W27 (Ne.symm m5_0_4)
    have Z28 : n0 ≤ h27.size := Nat.le_trans Z24 (Keep.of_wr W27).1
    have V5_0 := Arv.set Ar26 q26 S26 M26 H26 G26 rfl W27 0 rfl (Nat.le_of_ble_eq_true rfl)
    have V5_0 : Arv Z h27 b5_0 j5_0 .long (2 : Int32) [(.long (x6 ^^^ (5 : Int64))), (.long (0 : Int64))] (.long (0 : Int64)) := V5_0
    have N27 := Fr.snoc X27 N23 g_b5_0
    obtain ⟨T29, X29, e29, st29⟩ := getF X27 hx hZ hown (host := "") (Or.inl (hw _ (List.mem_of_getElem? (i := 72) rfl))) Via.refl e27 F5_2 (g := (mkF m 85 #[.val (.int x1), .val (.long x2), .second, .val (.long x3), .second, .val (.long x4), .second, .val (.long x5), .second, .val (.long x6), .second, .val (.ref b1), .val (.int (0 : Int32)), .val (.int (1 : Int32)), .unset, .unset, .unset] [(.ref b1)])) rfl rfl (hb hby at_85)
    obtain ⟨cl30, Ar30, q30, S30, M30, H30, G30⟩ := id V5_2
    have hin30 : ¬ ((0 : Int32) < 0 ∨ cl30.slots.size ≤ ((0 : Int32)).toNatClampNeg) := inb_of S30 ⟨by decide, by decide⟩
    obtain ⟨T31, h31, X31, e31, W31, st31⟩ := stJ X29 hx hZ e29 Ar30 (j := (0 : Int32)) hin30 (g := (mkF m 96 #[.val (.int x1), .val (.long x2), .second, .val (.long x3), .second, .val (.long x4), .second, .val (.long x5), .second, .val (.long x6), .second, .val (.ref b1), .val (.int (0 : Int32)), .val (.int (1 : Int32)), .unset, .unset, .unset] [(.long (x6 ^^^ (9 : Int64))), (.int (0 : Int32)), (.ref b5_2)])) rfl rfl (hb hby at_96)
    have Ee5 := Ee5.wr W31
    have Fc5 := Fc5.other W31 (Or.inl ne_b1_b5_2)
    have F5_0 := F5_0.other W31 (Or.inl ne_b1_b5_2)
    have V5_0 := V5_0.other W31 m5_0_2
    have F5_1 := F5_1.other W31 (Or.inl ne_b1_b5_2)
    have V5_1 := V5_1.other W31 m5_1_2
    have F5_2 := F5_2.other W31 (Or.inl ne_b1_b5_2)
    have F5_3 := F5_3.other W31 (Or.inl ne_b1_b5_2)
    have V5_3 := V5_3.other W31 (Ne.symm m5_2_3)
    have F5_4 := F5_4.other W31 (Or.inl ne_b1_b5_2)
    have V5_4 := V5_4.other W31 (Ne.symm m5_2_4)
    have Z32 : n0 ≤ h31.size := Nat.le_trans Z28 (Keep.of_wr W31).1
    have V5_2 := Arv.set Ar30 q30 S30 M30 H30 G30 rfl W31 0 rfl (Nat.le_of_ble_eq_true rfl)
    have V5_2 : Arv Z h31 b5_2 j5_2 .long (2 : Int32) [(.long (x6 ^^^ (9 : Int64))), (.long (0 : Int64))] (.long (0 : Int64)) := V5_2
    have N31 := Fr.snoc X31 N27 g_b5_2
    obtain ⟨T33, X33, e33, st33⟩ := getF X31 hx hZ hown (host := "") (Or.inl (hw _ (List.mem_of_getElem? (i := 74) rfl))) Via.refl e31 F5_3 (g := (mkF m 99 #[.val (.int x1), .val (.long x2), .second, .val (.long x3), .second, .val (.long x4), .second, .val (.long x5), .second, .val (.long x6), .second, .val (.ref b1), .val (.int (0 : Int32)), .val (.int (1 : Int32)), .unset, .unset, .unset] [(.ref b1)])) rfl rfl (hb hby at_99)
    obtain ⟨cl34, Ar34, q34, S34, M34, H34, G34⟩ := id V5_3
    have hin34 : ¬ ((0 : Int32) < 0 ∨ cl34.slots.size ≤ ((0 : Int32)).toNatClampNeg) := inb_of S34 ⟨by decide, by decide⟩
    obtain ⟨T35, h35, X35, e35, W35, st35⟩ := stJ X33 hx hZ e33 Ar34 (j := (0 : Int32)) hin34 (g := (mkF m 109 #[.val (.int x1), .val (.long x2), .second, .val (.long x3), .second, .val (.long x4), .second, .val (.long x5), .second, .val (.long x6), .second, .val (.ref b1), .val (.int (0 : Int32)), .val (.int (1 : Int32)), .unset, .unset, .unset] [(.long (x2 ^^^ (-1 : Int64))), (.int (0 : Int32)), (.ref b5_3)])) rfl rfl (hb hby at_109)
    have Ee5 := Ee5.wr W35
    have Fc5 := Fc5.other W35 (Or.inl ne_b1_b5_3)
    have F5_0 := F5_0.other W35 (Or.inl ne_b1_b5_3)
    have V5_0 := V5_0.other W35 m5_0_3
    have F5_1 := F5_1.other W35 (Or.inl ne_b1_b5_3)
    have V5_1 := V5_1.other W35 m5_1_3
    have F5_2 := F5_2.other W35 (Or.inl ne_b1_b5_3)
    have V5_2 := V5_2.other W35 m5_2_3
    have F5_3 := F5_3.other W35 (Or.inl ne_b1_b5_3)
    have F5_4 := F5_4.other W35 (Or.inl ne_b1_b5_3)
    have V5_4 := V5_4.other W35 (Ne.symm m5_3_4)
    have Z36 : n0 ≤ h35.size := Nat.le_trans Z32 (Keep.of_wr W35).1
    have V5_3 := Arv.set Ar34 q34 S34 M34 H34 G34 rfl W35 0 rfl (Nat.le_of_ble_eq_true rfl)
    have V5_3 : Arv Z h35 b5_3 j5_3 .long (2 : Int32) [(.long (x2 ^^^ (-1 : Int64))), (.long (9223372036854775807 : Int64))] (.long (0 : Int64)) := V5_3
    have N35 := Fr.snoc X35 N31 g_b5_3
    obtain ⟨cq37, kq37, q37a, q37b, q37c⟩ := isOf hZ e35 Ee5
    obtain ⟨_, _, ⟨T37, L37, k37, n37⟩, -, X37, ⟨Lc37, hQ37, l37, y37, z37⟩, st37⟩ := X35.virtualBack hx (y := (⟨"com/example/synclattice/synclattice/sync/StatePairs", "addNegatives", "(IJJ)V"⟩ : MethodName)) (z := (⟨"com/example/synclattice/synclattice/sync/StatePairs", "addNegatives", "(IJJ)V"⟩ : MethodName)) hown (mvT hZ (hw _ (List.mem_of_getElem? (i := 75) rfl))) (mvT hZ (hw _ (List.mem_of_getElem? (i := 76) rfl))) (notFace_of_selects (args := #[]) (mvT hZ (hw _ (List.mem_of_getElem? (i := 78) rfl)))) (mvT hZ (hw _ (List.mem_of_getElem? (i := 78) rfl))) (mvT hZ (hw _ (List.mem_of_getElem? (i := 77) rfl))) (by decide) (backOf (W := 0) (own_addN0 l Z a0 hw [] b1 x3 x5 b5_1 b5_4 j5_1 j5_4 x2 x6 x4 (x6 ^^^ (-1 : Int64)) h35 n0 Z36 F5_1 F5_4 V5_1 V5_4 m5_1_4 ne_b1_b5_1 ne_b1_b5_4 g_b5_1 g_b5_4) hZ (hw _ (List.mem_of_getElem? (i := 79) rfl)) (hw _ (List.mem_of_getElem? (i := 2) rfl)) (by decide) (by decide)) q37a q37c (g := (mkF m 117 #[.val (.int x1), .val (.long x2), .second, .val (.long x3), .second, .val (.long x4), .second, .val (.long x5), .second, .val (.long x6), .second, .val (.ref b1), .val (.int (0 : Int32)), .val (.int (1 : Int32)), .unset, .unset, .unset] [(.long x5), (.long x3), (.int (0 : Int32)), (.ref b1)])) rfl (by rw [hml]; rfl) (Steps.refl _) (argsL := [(.int (0 : Int32)), (.long x3), (.long x5)]) (rest := []) (lenOf own_pd6 rfl) rfl (by show 2 * 0 + _ ≤ _; exact Nat.le_of_eq rfl) (hb hby at_117) (fun _ _ => ⟨rfl, e35, (by decide : 19 + 0 ≤ _), (by decide : 60 + 0 ≤ _)⟩)
    dsimp only [Pt.U, Pt.locs, Pt.cells, Pt.slots] at X37 l37 y37 z37 st37 hQ37
    subst l37 y37 z37
    obtain ⟨rfl, N37q, K37, Vn37, Vf37⟩ := hQ37
    have N37 := Fr.app N35 N37q
    have Ee5 := Ee5.keep K37
    have Fc5 := Fc5.keep K37 (ninS ne_b1_b5_1 (ninS ne_b1_b5_4 nin0))
    have F5_0 := F5_0.keep K37 (ninS ne_b1_b5_1 (ninS ne_b1_b5_4 nin0))
    have V5_0 := V5_0.keep K37 (ninS m5_0_1 (ninS m5_0_4 nin0))
    have F5_1 := F5_1.keep K37 (ninS ne_b1_b5_1 (ninS ne_b1_b5_4 nin0))
    have F5_2 := F5_2.keep K37 (ninS ne_b1_b5_1 (ninS ne_b1_b5_4 nin0))
    have V5_2 := V5_2.keep K37 (ninS (Ne.symm m5_1_2) (ninS m5_2_4 nin0))
    have F5_3 := F5_3.keep K37 (ninS ne_b1_b5_1 (ninS ne_b1_b5_4 nin0))
    have V5_3 := V5_3.keep K37 (ninS (Ne.symm m5_1_3) (ninS m5_3_4 nin0))
    have F5_4 := F5_4.keep K37 (ninS ne_b1_b5_1 (ninS ne_b1_b5_4 nin0))
    have Z38 := Nat.le_trans Z36 K37.1
    have pre40 : ∀ t, Steps p.tables e below (T37.setTop (mkF m 136 #[.val (.int x1), .val (.long x2), .second, .val (.long x3), .second, .val (.long x4), .second, .val (.long x5), .second, .val (.long x6), .second, .val (.ref b1), .val (.int (0 : Int32)), .val (.int (1 : Int32)), .val (.long (if x5 < x4 then x5 else x4)), .second, .unset] [])) t → Steps p.tables e below (s₁.setTop (entryFrame m #[(.int x1), (.long x2), (.long x3), (.long x4), (.long x5), (.long x6)] maxLocals)) t := fun t k => pre7 t (by
      show Steps p.tables e below (T5.setTop (mkF m 18 #[.val (.int x1), .val (.long x2), .second, .val (.long x3), .second, .val (.long x4), .second, .val (.long x5), .second, .val (.long x6), .second, .val (.ref b1), .unset, .unset, .unset, .unset, .unset] [(.int (x1 &&& (1 : Int32)))])) _
      rw [hc8]
      show Steps p.tables e below (T5.setTop (mkF m 18 #[.val (.int x1), .val (.long x2), .second, .val (.long x3), .second, .val (.long x4), .second, .val (.long x5), .second, .val (.long x6), .second, .val (.ref b1), .unset, .unset, .unset, .unset, .unset] [(.int (0 : Int32))])) _
      refine XS.istore X5.here hx rfl (hb hby at_18) rfl (l' := #[.val (.int x1), .val (.long x2), .second, .val (.long x3), .second, .val (.long x4), .second, .val (.long x5), .second, .val (.long x6), .second, .val (.ref b1), .val (.int (0 : Int32)), .unset, .unset, .unset, .unset]) rfl ?_
      show Steps p.tables e below (T5.setTop (mkF m 20 #[.val (.int x1), .val (.long x2), .second, .val (.long x3), .second, .val (.long x4), .second, .val (.long x5), .second, .val (.long x6), .second, .val (.ref b1), .val (.int (0 : Int32)), .unset, .unset, .unset, .unset] [])) _
      refine XS.iconst X5.here hx rfl (hb hby at_20) ?_
      show Steps p.tables e below (T5.setTop (mkF m 21 #[.val (.int x1), .val (.long x2), .second, .val (.long x3), .second, .val (.long x4), .second, .val (.long x5), .second, .val (.long x6), .second, .val (.ref b1), .val (.int (0 : Int32)), .unset, .unset, .unset, .unset] [(.int (1 : Int32))])) _
      refine XS.iload X5.here hx rfl (hb hby at_21) rfl ?_
      show Steps p.tables e below (T5.setTop (mkF m 23 #[.val (.int x1), .val (.long x2), .second, .val (.long x3), .second, .val (.long x4), .second, .val (.long x5), .second, .val (.long x6), .second, .val (.ref b1), .val (.int (0 : Int32)), .unset, .unset, .unset, .unset] [(.int (0 : Int32)), (.int (1 : Int32))])) _
      refine XS.isub X5.here hx rfl (hb hby at_23) rfl ?_
      show Steps p.tables e below (T5.setTop (mkF m 24 #[.val (.int x1), .val (.long x2), .second, .val (.long x3), .second, .val (.long x4), .second, .val (.long x5), .second, .val (.long x6), .second, .val (.ref b1), .val (.int (0 : Int32)), .unset, .unset, .unset, .unset] [(.int (1 : Int32))])) _
      refine XS.istore X5.here hx rfl (hb hby at_24) rfl (l' := #[.val (.int x1), .val (.long x2), .second, .val (.long x3), .second, .val (.long x4), .second, .val (.long x5), .second, .val (.long x6), .second, .val (.ref b1), .val (.int (0 : Int32)), .val (.int (1 : Int32)), .unset, .unset, .unset]) rfl ?_
      show Steps p.tables e below (T5.setTop (mkF m 26 #[.val (.int x1), .val (.long x2), .second, .val (.long x3), .second, .val (.long x4), .second, .val (.long x5), .second, .val (.long x6), .second, .val (.ref b1), .val (.int (0 : Int32)), .val (.int (1 : Int32)), .unset, .unset, .unset] [])) _
      refine XS.aload X5.here hx rfl (hb hby at_26) rfl rfl ?_
      show Steps p.tables e below (T5.setTop (mkF m 28 #[.val (.int x1), .val (.long x2), .second, .val (.long x3), .second, .val (.long x4), .second, .val (.long x5), .second, .val (.long x6), .second, .val (.ref b1), .val (.int (0 : Int32)), .val (.int (1 : Int32)), .unset, .unset, .unset] [(.ref b1)])) _
      refine st9 _ ?_
      show Steps p.tables e below (T9.setTop (mkF m 31 #[.val (.int x1), .val (.long x2), .second, .val (.long x3), .second, .val (.long x4), .second, .val (.long x5), .second, .val (.long x6), .second, .val (.ref b1), .val (.int (0 : Int32)), .val (.int (1 : Int32)), .unset, .unset, .unset] [(.ref b5_1)])) _
      refine XS.iload X9.here hx rfl (hb hby at_31) rfl ?_
      show Steps p.tables e below (T9.setTop (mkF m 33 #[.val (.int x1), .val (.long x2), .second, .val (.long x3), .second, .val (.long x4), .second, .val (.long x5), .second, .val (.long x6), .second, .val (.ref b1), .val (.int (0 : Int32)), .val (.int (1 : Int32)), .unset, .unset, .unset] [(.int (0 : Int32)), (.ref b5_1)])) _
      refine XS.lloadN X9.here hx rfl (hb hby at_33) rfl ?_
      show Steps p.tables e below (T9.setTop (mkF m 34 #[.val (.int x1), .val (.long x2), .second, .val (.long x3), .second, .val (.long x4), .second, .val (.long x5), .second, .val (.long x6), .second, .val (.ref b1), .val (.int (0 : Int32)), .val (.int (1 : Int32)), .unset, .unset, .unset] [(.long x2), (.int (0 : Int32)), (.ref b5_1)])) _
      refine st11 _ ?_
      show Steps p.tables e below (T11.setTop (mkF m 35 #[.val (.int x1), .val (.long x2), .second, .val (.long x3), .second, .val (.long x4), .second, .val (.long x5), .second, .val (.long x6), .second, .val (.ref b1), .val (.int (0 : Int32)), .val (.int (1 : Int32)), .unset, .unset, .unset] [])) _
      refine XS.aload X11.here hx rfl (hb hby at_35) rfl rfl ?_
      show Steps p.tables e below (T11.setTop (mkF m 37 #[.val (.int x1), .val (.long x2), .second, .val (.long x3), .second, .val (.long x4), .second, .val (.long x5), .second, .val (.long x6), .second, .val (.ref b1), .val (.int (0 : Int32)), .val (.int (1 : Int32)), .unset, .unset, .unset] [(.ref b1)])) _
      refine st13 _ ?_
      show Steps p.tables e below (T13.setTop (mkF m 40 #[.val (.int x1), .val (.long x2), .second, .val (.long x3), .second, .val (.long x4), .second, .val (.long x5), .second, .val (.long x6), .second, .val (.ref b1), .val (.int (0 : Int32)), .val (.int (1 : Int32)), .unset, .unset, .unset] [(.ref b5_4)])) _
      refine XS.iload X13.here hx rfl (hb hby at_40) rfl ?_
      show Steps p.tables e below (T13.setTop (mkF m 42 #[.val (.int x1), .val (.long x2), .second, .val (.long x3), .second, .val (.long x4), .second, .val (.long x5), .second, .val (.long x6), .second, .val (.ref b1), .val (.int (0 : Int32)), .val (.int (1 : Int32)), .unset, .unset, .unset] [(.int (0 : Int32)), (.ref b5_4)])) _
      refine XS.lload X13.here hx rfl (hb hby at_42) rfl ?_
      show Steps p.tables e below (T13.setTop (mkF m 44 #[.val (.int x1), .val (.long x2), .second, .val (.long x3), .second, .val (.long x4), .second, .val (.long x5), .second, .val (.long x6), .second, .val (.ref b1), .val (.int (0 : Int32)), .val (.int (1 : Int32)), .unset, .unset, .unset] [(.long x4), (.int (0 : Int32)), (.ref b5_4)])) _
      refine st15 _ ?_
      show Steps p.tables e below (T15.setTop (mkF m 45 #[.val (.int x1), .val (.long x2), .second, .val (.long x3), .second, .val (.long x4), .second, .val (.long x5), .second, .val (.long x6), .second, .val (.ref b1), .val (.int (0 : Int32)), .val (.int (1 : Int32)), .unset, .unset, .unset] [])) _
      refine XS.aload X15.here hx rfl (hb hby at_45) rfl rfl ?_
      show Steps p.tables e below (T15.setTop (mkF m 47 #[.val (.int x1), .val (.long x2), .second, .val (.long x3), .second, .val (.long x4), .second, .val (.long x5), .second, .val (.long x6), .second, .val (.ref b1), .val (.int (0 : Int32)), .val (.int (1 : Int32)), .unset, .unset, .unset] [(.ref b1)])) _
      refine st17 _ ?_
      show Steps p.tables e below (T17.setTop (mkF m 50 #[.val (.int x1), .val (.long x2), .second, .val (.long x3), .second, .val (.long x4), .second, .val (.long x5), .second, .val (.long x6), .second, .val (.ref b1), .val (.int (0 : Int32)), .val (.int (1 : Int32)), .unset, .unset, .unset] [(.ref b5_1)])) _
      refine XS.iload X17.here hx rfl (hb hby at_50) rfl ?_
      show Steps p.tables e below (T17.setTop (mkF m 52 #[.val (.int x1), .val (.long x2), .second, .val (.long x3), .second, .val (.long x4), .second, .val (.long x5), .second, .val (.long x6), .second, .val (.ref b1), .val (.int (0 : Int32)), .val (.int (1 : Int32)), .unset, .unset, .unset] [(.int (1 : Int32)), (.ref b5_1)])) _
      refine XS.lload X17.here hx rfl (hb hby at_52) rfl ?_
      show Steps p.tables e below (T17.setTop (mkF m 54 #[.val (.int x1), .val (.long x2), .second, .val (.long x3), .second, .val (.long x4), .second, .val (.long x5), .second, .val (.long x6), .second, .val (.ref b1), .val (.int (0 : Int32)), .val (.int (1 : Int32)), .unset, .unset, .unset] [(.long x6), (.int (1 : Int32)), (.ref b5_1)])) _
      refine st19 _ ?_
      show Steps p.tables e below (T19.setTop (mkF m 55 #[.val (.int x1), .val (.long x2), .second, .val (.long x3), .second, .val (.long x4), .second, .val (.long x5), .second, .val (.long x6), .second, .val (.ref b1), .val (.int (0 : Int32)), .val (.int (1 : Int32)), .unset, .unset, .unset] [])) _
      refine XS.aload X19.here hx rfl (hb hby at_55) rfl rfl ?_
      show Steps p.tables e below (T19.setTop (mkF m 57 #[.val (.int x1), .val (.long x2), .second, .val (.long x3), .second, .val (.long x4), .second, .val (.long x5), .second, .val (.long x6), .second, .val (.ref b1), .val (.int (0 : Int32)), .val (.int (1 : Int32)), .unset, .unset, .unset] [(.ref b1)])) _
      refine st21 _ ?_
      show Steps p.tables e below (T21.setTop (mkF m 60 #[.val (.int x1), .val (.long x2), .second, .val (.long x3), .second, .val (.long x4), .second, .val (.long x5), .second, .val (.long x6), .second, .val (.ref b1), .val (.int (0 : Int32)), .val (.int (1 : Int32)), .unset, .unset, .unset] [(.ref b5_4)])) _
      refine XS.iload X21.here hx rfl (hb hby at_60) rfl ?_
      show Steps p.tables e below (T21.setTop (mkF m 62 #[.val (.int x1), .val (.long x2), .second, .val (.long x3), .second, .val (.long x4), .second, .val (.long x5), .second, .val (.long x6), .second, .val (.ref b1), .val (.int (0 : Int32)), .val (.int (1 : Int32)), .unset, .unset, .unset] [(.int (1 : Int32)), (.ref b5_4)])) _
      refine XS.lload X21.here hx rfl (hb hby at_62) rfl ?_
      show Steps p.tables e below (T21.setTop (mkF m 64 #[.val (.int x1), .val (.long x2), .second, .val (.long x3), .second, .val (.long x4), .second, .val (.long x5), .second, .val (.long x6), .second, .val (.ref b1), .val (.int (0 : Int32)), .val (.int (1 : Int32)), .unset, .unset, .unset] [(.long x6), (.int (1 : Int32)), (.ref b5_4)])) _
      refine X21.ldc2Long hx hown (mvT hZ (hw _ (List.mem_of_getElem? (i := 69) rfl))) (g := (mkF m 64 #[.val (.int x1), .val (.long x2), .second, .val (.long x3), .second, .val (.long x4), .second, .val (.long x5), .second, .val (.long x6), .second, .val (.ref b1), .val (.int (0 : Int32)), .val (.int (1 : Int32)), .unset, .unset, .unset] [(.long x6), (.int (1 : Int32)), (.ref b5_4)])) rfl (hb hby at_64) _ ?_
      show Steps p.tables e below (T21.setTop (mkF m 67 #[.val (.int x1), .val (.long x2), .second, .val (.long x3), .second, .val (.long x4), .second, .val (.long x5), .second, .val (.long x6), .second, .val (.ref b1), .val (.int (0 : Int32)), .val (.int (1 : Int32)), .unset, .unset, .unset] [(.long (-1 : Int64)), (.long x6), (.int (1 : Int32)), (.ref b5_4)])) _
      refine XS.lxor X21.here hx rfl (hb hby at_67) rfl ?_
      show Steps p.tables e below (T21.setTop (mkF m 68 #[.val (.int x1), .val (.long x2), .second, .val (.long x3), .second, .val (.long x4), .second, .val (.long x5), .second, .val (.long x6), .second, .val (.ref b1), .val (.int (0 : Int32)), .val (.int (1 : Int32)), .unset, .unset, .unset] [(.long (x6 ^^^ (-1 : Int64))), (.int (1 : Int32)), (.ref b5_4)])) _
      refine st23 _ ?_
      show Steps p.tables e below (T23.setTop (mkF m 69 #[.val (.int x1), .val (.long x2), .second, .val (.long x3), .second, .val (.long x4), .second, .val (.long x5), .second, .val (.long x6), .second, .val (.ref b1), .val (.int (0 : Int32)), .val (.int (1 : Int32)), .unset, .unset, .unset] [])) _
      refine XS.aload X23.here hx rfl (hb hby at_69) rfl rfl ?_
      show Steps p.tables e below (T23.setTop (mkF m 71 #[.val (.int x1), .val (.long x2), .second, .val (.long x3), .second, .val (.long x4), .second, .val (.long x5), .second, .val (.long x6), .second, .val (.ref b1), .val (.int (0 : Int32)), .val (.int (1 : Int32)), .unset, .unset, .unset] [(.ref b1)])) _
      refine st25 _ ?_
      show Steps p.tables e below (T25.setTop (mkF m 74 #[.val (.int x1), .val (.long x2), .second, .val (.long x3), .second, .val (.long x4), .second, .val (.long x5), .second, .val (.long x6), .second, .val (.ref b1), .val (.int (0 : Int32)), .val (.int (1 : Int32)), .unset, .unset, .unset] [(.ref b5_0)])) _
      refine XS.iload X25.here hx rfl (hb hby at_74) rfl ?_
      show Steps p.tables e below (T25.setTop (mkF m 76 #[.val (.int x1), .val (.long x2), .second, .val (.long x3), .second, .val (.long x4), .second, .val (.long x5), .second, .val (.long x6), .second, .val (.ref b1), .val (.int (0 : Int32)), .val (.int (1 : Int32)), .unset, .unset, .unset] [(.int (0 : Int32)), (.ref b5_0)])) _
      refine XS.lload X25.here hx rfl (hb hby at_76) rfl ?_
      show Steps p.tables e below (T25.setTop (mkF m 78 #[.val (.int x1), .val (.long x2), .second, .val (.long x3), .second, .val (.long x4), .second, .val (.long x5), .second, .val (.long x6), .second, .val (.ref b1), .val (.int (0 : Int32)), .val (.int (1 : Int32)), .unset, .unset, .unset] [(.long x6), (.int (0 : Int32)), (.ref b5_0)])) _
      refine X25.ldc2Long hx hown (mvT hZ (hw _ (List.mem_of_getElem? (i := 71) rfl))) (g := (mkF m 78 #[.val (.int x1), .val (.long x2), .second, .val (.long x3), .second, .val (.long x4), .second, .val (.long x5), .second, .val (.long x6), .second, .val (.ref b1), .val (.int (0 : Int32)), .val (.int (1 : Int32)), .unset, .unset, .unset] [(.long x6), (.int (0 : Int32)), (.ref b5_0)])) rfl (hb hby at_78) _ ?_
      show Steps p.tables e below (T25.setTop (mkF m 81 #[.val (.int x1), .val (.long x2), .second, .val (.long x3), .second, .val (.long x4), .second, .val (.long x5), .second, .val (.long x6), .second, .val (.ref b1), .val (.int (0 : Int32)), .val (.int (1 : Int32)), .unset, .unset, .unset] [(.long (5 : Int64)), (.long x6), (.int (0 : Int32)), (.ref b5_0)])) _
      refine XS.lxor X25.here hx rfl (hb hby at_81) rfl ?_
      show Steps p.tables e below (T25.setTop (mkF m 82 #[.val (.int x1), .val (.long x2), .second, .val (.long x3), .second, .val (.long x4), .second, .val (.long x5), .second, .val (.long x6), .second, .val (.ref b1), .val (.int (0 : Int32)), .val (.int (1 : Int32)), .unset, .unset, .unset] [(.long (x6 ^^^ (5 : Int64))), (.int (0 : Int32)), (.ref b5_0)])) _
      refine st27 _ ?_
      show Steps p.tables e below (T27.setTop (mkF m 83 #[.val (.int x1), .val (.long x2), .second, .val (.long x3), .second, .val (.long x4), .second, .val (.long x5), .second, .val (.long x6), .second, .val (.ref b1), .val (.int (0 : Int32)), .val (.int (1 : Int32)), .unset, .unset, .unset] [])) _
      refine XS.aload X27.here hx rfl (hb hby at_83) rfl rfl ?_
      show Steps p.tables e below (T27.setTop (mkF m 85 #[.val (.int x1), .val (.long x2), .second, .val (.long x3), .second, .val (.long x4), .second, .val (.long x5), .second, .val (.long x6), .second, .val (.ref b1), .val (.int (0 : Int32)), .val (.int (1 : Int32)), .unset, .unset, .unset] [(.ref b1)])) _
      refine st29 _ ?_
      show Steps p.tables e below (T29.setTop (mkF m 88 #[.val (.int x1), .val (.long x2), .second, .val (.long x3), .second, .val (.long x4), .second, .val (.long x5), .second, .val (.long x6), .second, .val (.ref b1), .val (.int (0 : Int32)), .val (.int (1 : Int32)), .unset, .unset, .unset] [(.ref b5_2)])) _
      refine XS.iload X29.here hx rfl (hb hby at_88) rfl ?_
      show Steps p.tables e below (T29.setTop (mkF m 90 #[.val (.int x1), .val (.long x2), .second, .val (.long x3), .second, .val (.long x4), .second, .val (.long x5), .second, .val (.long x6), .second, .val (.ref b1), .val (.int (0 : Int32)), .val (.int (1 : Int32)), .unset, .unset, .unset] [(.int (0 : Int32)), (.ref b5_2)])) _
      refine XS.lload X29.here hx rfl (hb hby at_90) rfl ?_
      show Steps p.tables e below (T29.setTop (mkF m 92 #[.val (.int x1), .val (.long x2), .second, .val (.long x3), .second, .val (.long x4), .second, .val (.long x5), .second, .val (.long x6), .second, .val (.ref b1), .val (.int (0 : Int32)), .val (.int (1 : Int32)), .unset, .unset, .unset] [(.long x6), (.int (0 : Int32)), (.ref b5_2)])) _
      refine X29.ldc2Long hx hown (mvT hZ (hw _ (List.mem_of_getElem? (i := 73) rfl))) (g := (mkF m 92 #[.val (.int x1), .val (.long x2), .second, .val (.long x3), .second, .val (.long x4), .second, .val (.long x5), .second, .val (.long x6), .second, .val (.ref b1), .val (.int (0 : Int32)), .val (.int (1 : Int32)), .unset, .unset, .unset] [(.long x6), (.int (0 : Int32)), (.ref b5_2)])) rfl (hb hby at_92) _ ?_
      show Steps p.tables e below (T29.setTop (mkF m 95 #[.val (.int x1), .val (.long x2), .second, .val (.long x3), .second, .val (.long x4), .second, .val (.long x5), .second, .val (.long x6), .second, .val (.ref b1), .val (.int (0 : Int32)), .val (.int (1 : Int32)), .unset, .unset, .unset] [(.long (9 : Int64)), (.long x6), (.int (0 : Int32)), (.ref b5_2)])) _
      refine XS.lxor X29.here hx rfl (hb hby at_95) rfl ?_
      show Steps p.tables e below (T29.setTop (mkF m 96 #[.val (.int x1), .val (.long x2), .second, .val (.long x3), .second, .val (.long x4), .second, .val (.long x5), .second, .val (.long x6), .second, .val (.ref b1), .val (.int (0 : Int32)), .val (.int (1 : Int32)), .unset, .unset, .unset] [(.long (x6 ^^^ (9 : Int64))), (.int (0 : Int32)), (.ref b5_2)])) _
      refine st31 _ ?_
      show Steps p.tables e below (T31.setTop (mkF m 97 #[.val (.int x1), .val (.long x2), .second, .val (.long x3), .second, .val (.long x4), .second, .val (.long x5), .second, .val (.long x6), .second, .val (.ref b1), .val (.int (0 : Int32)), .val (.int (1 : Int32)), .unset, .unset, .unset] [])) _
      refine XS.aload X31.here hx rfl (hb hby at_97) rfl rfl ?_
      show Steps p.tables e below (T31.setTop (mkF m 99 #[.val (.int x1), .val (.long x2), .second, .val (.long x3), .second, .val (.long x4), .second, .val (.long x5), .second, .val (.long x6), .second, .val (.ref b1), .val (.int (0 : Int32)), .val (.int (1 : Int32)), .unset, .unset, .unset] [(.ref b1)])) _
      refine st33 _ ?_
      show Steps p.tables e below (T33.setTop (mkF m 102 #[.val (.int x1), .val (.long x2), .second, .val (.long x3), .second, .val (.long x4), .second, .val (.long x5), .second, .val (.long x6), .second, .val (.ref b1), .val (.int (0 : Int32)), .val (.int (1 : Int32)), .unset, .unset, .unset] [(.ref b5_3)])) _
      refine XS.iload X33.here hx rfl (hb hby at_102) rfl ?_
      show Steps p.tables e below (T33.setTop (mkF m 104 #[.val (.int x1), .val (.long x2), .second, .val (.long x3), .second, .val (.long x4), .second, .val (.long x5), .second, .val (.long x6), .second, .val (.ref b1), .val (.int (0 : Int32)), .val (.int (1 : Int32)), .unset, .unset, .unset] [(.int (0 : Int32)), (.ref b5_3)])) _
      refine XS.lloadN X33.here hx rfl (hb hby at_104) rfl ?_
      show Steps p.tables e below (T33.setTop (mkF m 105 #[.val (.int x1), .val (.long x2), .second, .val (.long x3), .second, .val (.long x4), .second, .val (.long x5), .second, .val (.long x6), .second, .val (.ref b1), .val (.int (0 : Int32)), .val (.int (1 : Int32)), .unset, .unset, .unset] [(.long x2), (.int (0 : Int32)), (.ref b5_3)])) _
      refine X33.ldc2Long hx hown (mvT hZ (hw _ (List.mem_of_getElem? (i := 69) rfl))) (g := (mkF m 105 #[.val (.int x1), .val (.long x2), .second, .val (.long x3), .second, .val (.long x4), .second, .val (.long x5), .second, .val (.long x6), .second, .val (.ref b1), .val (.int (0 : Int32)), .val (.int (1 : Int32)), .unset, .unset, .unset] [(.long x2), (.int (0 : Int32)), (.ref b5_3)])) rfl (hb hby at_105) _ ?_
      show Steps p.tables e below (T33.setTop (mkF m 108 #[.val (.int x1), .val (.long x2), .second, .val (.long x3), .second, .val (.long x4), .second, .val (.long x5), .second, .val (.long x6), .second, .val (.ref b1), .val (.int (0 : Int32)), .val (.int (1 : Int32)), .unset, .unset, .unset] [(.long (-1 : Int64)), (.long x2), (.int (0 : Int32)), (.ref b5_3)])) _
      refine XS.lxor X33.here hx rfl (hb hby at_108) rfl ?_
      show Steps p.tables e below (T33.setTop (mkF m 109 #[.val (.int x1), .val (.long x2), .second, .val (.long x3), .second, .val (.long x4), .second, .val (.long x5), .second, .val (.long x6), .second, .val (.ref b1), .val (.int (0 : Int32)), .val (.int (1 : Int32)), .unset, .unset, .unset] [(.long (x2 ^^^ (-1 : Int64))), (.int (0 : Int32)), (.ref b5_3)])) _
      refine st35 _ ?_
      show Steps p.tables e below (T35.setTop (mkF m 110 #[.val (.int x1), .val (.long x2), .second, .val (.long x3), .second, .val (.long x4), .second, .val (.long x5), .second, .val (.long x6), .second, .val (.ref b1), .val (.int (0 : Int32)), .val (.int (1 : Int32)), .unset, .unset, .unset] [])) _
      refine XS.aload X35.here hx rfl (hb hby at_110) rfl rfl ?_
      show Steps p.tables e below (T35.setTop (mkF m 112 #[.val (.int x1), .val (.long x2), .second, .val (.long x3), .second, .val (.long x4), .second, .val (.long x5), .second, .val (.long x6), .second, .val (.ref b1), .val (.int (0 : Int32)), .val (.int (1 : Int32)), .unset, .unset, .unset] [(.ref b1)])) _
      refine XS.iload X35.here hx rfl (hb hby at_112) rfl ?_
      show Steps p.tables e below (T35.setTop (mkF m 114 #[.val (.int x1), .val (.long x2), .second, .val (.long x3), .second, .val (.long x4), .second, .val (.long x5), .second, .val (.long x6), .second, .val (.ref b1), .val (.int (0 : Int32)), .val (.int (1 : Int32)), .unset, .unset, .unset] [(.int (0 : Int32)), (.ref b1)])) _
      refine XS.lloadN X35.here hx rfl (hb hby at_114) rfl ?_
      show Steps p.tables e below (T35.setTop (mkF m 115 #[.val (.int x1), .val (.long x2), .second, .val (.long x3), .second, .val (.long x4), .second, .val (.long x5), .second, .val (.long x6), .second, .val (.ref b1), .val (.int (0 : Int32)), .val (.int (1 : Int32)), .unset, .unset, .unset] [(.long x3), (.int (0 : Int32)), (.ref b1)])) _
      refine XS.lload X35.here hx rfl (hb hby at_115) rfl ?_
      show Steps p.tables e below (T35.setTop (mkF m 117 #[.val (.int x1), .val (.long x2), .second, .val (.long x3), .second, .val (.long x4), .second, .val (.long x5), .second, .val (.long x6), .second, .val (.ref b1), .val (.int (0 : Int32)), .val (.int (1 : Int32)), .unset, .unset, .unset] [(.long x5), (.long x3), (.int (0 : Int32)), (.ref b1)])) _
      refine st37.trans ?_
      show Steps p.tables e below (T37.setTop (mkF m 120 #[.val (.int x1), .val (.long x2), .second, .val (.long x3), .second, .val (.long x4), .second, .val (.long x5), .second, .val (.long x6), .second, .val (.ref b1), .val (.int (0 : Int32)), .val (.int (1 : Int32)), .unset, .unset, .unset] [])) _
      refine XS.lload X37.here hx rfl (hb hby at_120) rfl ?_
      show Steps p.tables e below (T37.setTop (mkF m 122 #[.val (.int x1), .val (.long x2), .second, .val (.long x3), .second, .val (.long x4), .second, .val (.long x5), .second, .val (.long x6), .second, .val (.ref b1), .val (.int (0 : Int32)), .val (.int (1 : Int32)), .unset, .unset, .unset] [(.long x4)])) _
      refine XS.lstore X37.here hx rfl (hb hby at_122) rfl (l' := #[.val (.int x1), .val (.long x2), .second, .val (.long x3), .second, .val (.long x4), .second, .val (.long x5), .second, .val (.long x6), .second, .val (.ref b1), .val (.int (0 : Int32)), .val (.int (1 : Int32)), .val (.long x4), .second, .unset]) rfl ?_
      show Steps p.tables e below (T37.setTop (mkF m 124 #[.val (.int x1), .val (.long x2), .second, .val (.long x3), .second, .val (.long x4), .second, .val (.long x5), .second, .val (.long x6), .second, .val (.ref b1), .val (.int (0 : Int32)), .val (.int (1 : Int32)), .val (.long x4), .second, .unset] [])) _
      refine XS.lload X37.here hx rfl (hb hby at_124) rfl ?_
      show Steps p.tables e below (T37.setTop (mkF m 126 #[.val (.int x1), .val (.long x2), .second, .val (.long x3), .second, .val (.long x4), .second, .val (.long x5), .second, .val (.long x6), .second, .val (.ref b1), .val (.int (0 : Int32)), .val (.int (1 : Int32)), .val (.long x4), .second, .unset] [(.long x5)])) _
      refine XS.lload X37.here hx rfl (hb hby at_126) rfl ?_
      show Steps p.tables e below (T37.setTop (mkF m 128 #[.val (.int x1), .val (.long x2), .second, .val (.long x3), .second, .val (.long x4), .second, .val (.long x5), .second, .val (.long x6), .second, .val (.ref b1), .val (.int (0 : Int32)), .val (.int (1 : Int32)), .val (.long x4), .second, .unset] [(.long x4), (.long x5)])) _
      refine XS.lcmp X37.here hx rfl (hb hby at_128) rfl ?_
      show Steps p.tables e below (T37.setTop (mkF m 129 #[.val (.int x1), .val (.long x2), .second, .val (.long x3), .second, .val (.long x4), .second, .val (.long x5), .second, .val (.long x6), .second, .val (.ref b1), .val (.int (0 : Int32)), .val (.int (1 : Int32)), .val (.long x4), .second, .unset] [(.int (lcmpW x5 x4))])) _
      by_cases hc39 : x5 < x4
      · skip
        refine XS.ifNo X37.here hx rfl (hb hby at_129) rfl ((if0 _ _).trans (tlt ((lw_lt _ _).mpr hc39)).2.1) ?_
        show Steps p.tables e below (T37.setTop (mkF m 132 #[.val (.int x1), .val (.long x2), .second, .val (.long x3), .second, .val (.long x4), .second, .val (.long x5), .second, .val (.long x6), .second, .val (.ref b1), .val (.int (0 : Int32)), .val (.int (1 : Int32)), .val (.long x4), .second, .unset] [])) _
        refine XS.lload X37.here hx rfl (hb hby at_132) rfl ?_
        show Steps p.tables e below (T37.setTop (mkF m 134 #[.val (.int x1), .val (.long x2), .second, .val (.long x3), .second, .val (.long x4), .second, .val (.long x5), .second, .val (.long x6), .second, .val (.ref b1), .val (.int (0 : Int32)), .val (.int (1 : Int32)), .val (.long x4), .second, .unset] [(.long x5)])) _
        refine XS.lstore X37.here hx rfl (hb hby at_134) rfl (l' := #[.val (.int x1), .val (.long x2), .second, .val (.long x3), .second, .val (.long x4), .second, .val (.long x5), .second, .val (.long x6), .second, .val (.ref b1), .val (.int (0 : Int32)), .val (.int (1 : Int32)), .val (.long x5), .second, .unset]) rfl ?_
        exact castTop (congrArg (fun z_ => (mkF m 136 #[.val (.int x1), .val (.long x2), .second, .val (.long x3), .second, .val (.long x4), .second, .val (.long x5), .second, .val (.long x6), .second, .val (.ref b1), .val (.int (0 : Int32)), .val (.int (1 : Int32)), .val (.long z_), .second, .unset] [])) (show x5 = (if x5 < x4 then x5 else x4) from by rw [if_pos hc39])) k
      · skip
        refine XS.ifYes X37.here hx rfl (pc0 := 129) (pc' := 136) rfl (hb hby at_129) rfl ((if0 _ _).trans (flt (fun q => hc39 ((lw_lt _ _).mp q))).2.1) (by decide) (by decide) ?_
        exact castTop (congrArg (fun z_ => (mkF m 136 #[.val (.int x1), .val (.long x2), .second, .val (.long x3), .second, .val (.long x4), .second, .val (.long x5), .second, .val (.long x6), .second, .val (.ref b1), .val (.int (0 : Int32)), .val (.int (1 : Int32)), .val (.long z_), .second, .unset] [])) (show x4 = (if x5 < x4 then x5 else x4) from by rw [if_neg hc39])) k)
    obtain ⟨T41, X41, e41, st41⟩ := getF X37 hx hZ hown (host := "") (Or.inl (hw _ (List.mem_of_getElem? (i := 67) rfl))) Via.refl rfl F5_1 (g := (mkF m 138 #[.val (.int x1), .val (.long x2), .second, .val (.long x3), .second, .val (.long x4), .second, .val (.long x5), .second, .val (.long x6), .second, .val (.ref b1), .val (.int (0 : Int32)), .val (.int (1 : Int32)), .val (.long (if x5 < x4 then x5 else x4)), .second, .unset] [(.ref b1)])) rfl rfl (hb hby at_138)
    obtain ⟨cl42, Ar42, q42, S42, M42, H42, G42⟩ := id Vn37
    have hin42 : ¬ ((0 : Int32) < 0 ∨ cl42.slots.size ≤ ((0 : Int32)).toNatClampNeg) := inb_of S42 ⟨by decide, by decide⟩
    obtain ⟨T43, X43, e43, st43⟩ := getF X41 hx hZ hown (host := "") (Or.inl (hw _ (List.mem_of_getElem? (i := 68) rfl))) Via.refl e41 F5_4 (g := (mkF m 165 #[.val (.int x1), .val (.long x2), .second, .val (.long x3), .second, .val (.long x4), .second, .val (.long x5), .second, .val (.long x6), .second, .val (.ref b1), .val (.int (0 : Int32)), .val (.int (1 : Int32)), .val (.long (if x5 < x4 then x5 else x4)), .second, .val (.int (1 : Int32))] [(.ref b1)])) rfl rfl (hb hby at_165)
    obtain ⟨cl44, Ar44, q44, S44, M44, H44, G44⟩ := id Vf37
    have hin44 : ¬ ((0 : Int32) < 0 ∨ cl44.slots.size ≤ ((0 : Int32)).toNatClampNeg) := inb_of S44 ⟨by decide, by decide⟩
    obtain ⟨T45, X45, e45, st45⟩ := getF X43 hx hZ hown (host := "") (Or.inl (hw _ (List.mem_of_getElem? (i := 67) rfl))) Via.refl e43 F5_1 (g := (mkF m 191 #[.val (.int x1), .val (.long x2), .second, .val (.long x3), .second, .val (.long x4), .second, .val (.long x5), .second, .val (.long x6), .second, .val (.ref b1), .val (.int (0 : Int32)), .val (.int (1 : Int32)), .val (.long (if x5 < x4 then x5 else x4)), .second, .val (.int (1 : Int32))] [(.ref b1)])) rfl rfl (hb hby at_191)
    obtain ⟨cl46, Ar46, q46, S46, M46, H46, G46⟩ := id Vn37
    have hin46 : ¬ ((1 : Int32) < 0 ∨ cl46.slots.size ≤ ((1 : Int32)).toNatClampNeg) := inb_of S46 ⟨by decide, by decide⟩
    obtain ⟨T47, X47, e47, st47⟩ := getF X45 hx hZ hown (host := "") (Or.inl (hw _ (List.mem_of_getElem? (i := 68) rfl))) Via.refl e45 F5_4 (g := (mkF m 217 #[.val (.int x1), .val (.long x2), .second, .val (.long x3), .second, .val (.long x4), .second, .val (.long x5), .second, .val (.long x6), .second, .val (.ref b1), .val (.int (0 : Int32)), .val (.int (1 : Int32)), .val (.long (if x5 < x4 then x5 else x4)), .second, .val (.int (1 : Int32))] [(.ref b1)])) rfl rfl (hb hby at_217)
    obtain ⟨cl48, Ar48, q48, S48, M48, H48, G48⟩ := id Vf37
    have hin48 : ¬ ((1 : Int32) < 0 ∨ cl48.slots.size ≤ ((1 : Int32)).toNatClampNeg) := inb_of S48 ⟨by decide, by decide⟩
    obtain ⟨T49, X49, e49, st49⟩ := getF X47 hx hZ hown (host := "") (Or.inl (hw _ (List.mem_of_getElem? (i := 70) rfl))) Via.refl e47 F5_0 (g := (mkF m 247 #[.val (.int x1), .val (.long x2), .second, .val (.long x3), .second, .val (.long x4), .second, .val (.long x5), .second, .val (.long x6), .second, .val (.ref b1), .val (.int (0 : Int32)), .val (.int (1 : Int32)), .val (.long (if x5 < x4 then x5 else x4)), .second, .val (.int (1 : Int32))] [(.ref b1)])) rfl rfl (hb hby at_247)
    obtain ⟨cl50, Ar50, q50, S50, M50, H50, G50⟩ := id V5_0
    have hin50 : ¬ ((0 : Int32) < 0 ∨ cl50.slots.size ≤ ((0 : Int32)).toNatClampNeg) := inb_of S50 ⟨by decide, by decide⟩
    obtain ⟨T51, X51, e51, st51⟩ := getF X49 hx hZ hown (host := "") (Or.inl (hw _ (List.mem_of_getElem? (i := 72) rfl))) Via.refl e49 F5_2 (g := (mkF m 277 #[.val (.int x1), .val (.long x2), .second, .val (.long x3), .second, .val (.long x4), .second, .val (.long x5), .second, .val (.long x6), .second, .val (.ref b1), .val (.int (0 : Int32)), .val (.int (1 : Int32)), .val (.long (if x5 < x4 then x5 else x4)), .second, .val (.int (1 : Int32))] [(.ref b1)])) rfl rfl (hb hby at_277)
    obtain ⟨cl52, Ar52, q52, S52, M52, H52, G52⟩ := id V5_2
    have hin52 : ¬ ((0 : Int32) < 0 ∨ cl52.slots.size ≤ ((0 : Int32)).toNatClampNeg) := inb_of S52 ⟨by decide, by decide⟩
    obtain ⟨T53, X53, e53, st53⟩ := getF X51 hx hZ hown (host := "") (Or.inl (hw _ (List.mem_of_getElem? (i := 74) rfl))) Via.refl e51 F5_3 (g := (mkF m 307 #[.val (.int x1), .val (.long x2), .second, .val (.long x3), .second, .val (.long x4), .second, .val (.long x5), .second, .val (.long x6), .second, .val (.ref b1), .val (.int (0 : Int32)), .val (.int (1 : Int32)), .val (.long (if x5 < x4 then x5 else x4)), .second, .val (.int (1 : Int32))] [(.ref b1)])) rfl rfl (hb hby at_307)
    obtain ⟨cl54, Ar54, q54, S54, M54, H54, G54⟩ := id V5_3
    have hin54 : ¬ ((0 : Int32) < 0 ∨ cl54.slots.size ≤ ((0 : Int32)).toNatClampNeg) := inb_of S54 ⟨by decide, by decide⟩
    obtain ⟨T55, X55, e55, st55⟩ := getF X53 hx hZ hown (host := "") (Or.inl (hw _ (List.mem_of_getElem? (i := 70) rfl))) Via.refl e53 F5_0 (g := (mkF m 336 #[.val (.int x1), .val (.long x2), .second, .val (.long x3), .second, .val (.long x4), .second, .val (.long x5), .second, .val (.long x6), .second, .val (.ref b1), .val (.int (0 : Int32)), .val (.int (1 : Int32)), .val (.long (if x5 < x4 then x5 else x4)), .second, .val (.int (1 : Int32))] [(.ref b1)])) rfl rfl (hb hby at_336)
    obtain ⟨cl56, Ar56, q56, S56, M56, H56, G56⟩ := id V5_0
    have hin56 : ¬ ((1 : Int32) < 0 ∨ cl56.slots.size ≤ ((1 : Int32)).toNatClampNeg) := inb_of S56 ⟨by decide, by decide⟩
    obtain ⟨T57, X57, e57, st57⟩ := getF X55 hx hZ hown (host := "") (Or.inl (hw _ (List.mem_of_getElem? (i := 72) rfl))) Via.refl e55 F5_2 (g := (mkF m 361 #[.val (.int x1), .val (.long x2), .second, .val (.long x3), .second, .val (.long x4), .second, .val (.long x5), .second, .val (.long x6), .second, .val (.ref b1), .val (.int (0 : Int32)), .val (.int (1 : Int32)), .val (.long (if x5 < x4 then x5 else x4)), .second, .val (.int (1 : Int32))] [(.ref b1)])) rfl rfl (hb hby at_361)
    obtain ⟨cl58, Ar58, q58, S58, M58, H58, G58⟩ := id V5_2
    have hin58 : ¬ ((1 : Int32) < 0 ∨ cl58.slots.size ≤ ((1 : Int32)).toNatClampNeg) := inb_of S58 ⟨by decide, by decide⟩
    obtain ⟨T59, X59, e59, st59⟩ := getF X57 hx hZ hown (host := "") (Or.inl (hw _ (List.mem_of_getElem? (i := 74) rfl))) Via.refl e57 F5_3 (g := (mkF m 386 #[.val (.int x1), .val (.long x2), .second, .val (.long x3), .second, .val (.long x4), .second, .val (.long x5), .second, .val (.long x6), .second, .val (.ref b1), .val (.int (0 : Int32)), .val (.int (1 : Int32)), .val (.long (if x5 < x4 then x5 else x4)), .second, .val (.int (1 : Int32))] [(.ref b1)])) rfl rfl (hb hby at_386)
    obtain ⟨cl60, Ar60, q60, S60, M60, H60, G60⟩ := id V5_3
    have hin60 : ¬ ((1 : Int32) < 0 ∨ cl60.slots.size ≤ ((1 : Int32)).toNatClampNeg) := inb_of S60 ⟨by decide, by decide⟩
    obtain ⟨cq61, kq61, q61a, q61b, q61c⟩ := isOf hZ e59 Ee5
    obtain ⟨_, _, ⟨T61, L61, k61, n61⟩, -, X61, ⟨Lc61, hQ61, l61, y61, z61⟩, st61⟩ := X59.virtualBack hx (y := (⟨"com/example/synclattice/synclattice/sync/StatePairs", "count", "()I"⟩ : MethodName)) (z := (⟨"com/example/synclattice/synclattice/sync/StatePairs", "count", "()I"⟩ : MethodName)) hown (mvT hZ (hw _ (List.mem_of_getElem? (i := 84) rfl))) (mvT hZ (hw _ (List.mem_of_getElem? (i := 85) rfl))) (notFace_of_selects (args := #[]) (mvT hZ (hw _ (List.mem_of_getElem? (i := 87) rfl)))) (mvT hZ (hw _ (List.mem_of_getElem? (i := 87) rfl))) (mvT hZ (hw _ (List.mem_of_getElem? (i := 86) rfl))) (by decide) (backOf (W := 0) (own_count l Z a0 hw [] b1 (2 : Int32) T37.heap n0 Z38 Fc5) hZ (hw _ (List.mem_of_getElem? (i := 88) rfl)) (hw _ (List.mem_of_getElem? (i := 2) rfl)) (by decide) (by decide)) q61a q61c (g := (mkF m 413 #[.val (.int x1), .val (.long x2), .second, .val (.long x3), .second, .val (.long x4), .second, .val (.long x5), .second, .val (.long x6), .second, .val (.ref b1), .val (.int (0 : Int32)), .val (.int (1 : Int32)), .val (.long (if x5 < x4 then x5 else x4)), .second, .val (.int (1 : Int32))] [(.ref b1)])) rfl (by rw [hml]; rfl) (Steps.refl _) (argsL := []) (rest := []) (lenOf own_pd7 rfl) rfl (by show 2 * 0 + _ ≤ _; exact Nat.le_of_eq rfl) (hb hby at_413) (fun _ _ => ⟨rfl, e59, (by decide : 19 + 0 ≤ _), (by decide : 60 + 0 ≤ _)⟩)
    dsimp only [Pt.U, Pt.locs, Pt.cells, Pt.slots] at X61 l61 y61 z61 st61 hQ61
    subst l61 y61 z61
    obtain ⟨rfl, N61q, e61⟩ := hQ61
    have N61 := Fr.app N37 N61q
    obtain ⟨fs, hr, hrun, hended, hW, hsame⟩ := X61.leave (v := some (.int (1 : Int32))) (fun h => by rw [Bd.returns] at h; cases h)
    refine ⟨_, _, pre40 _ ?_, hrun, hended, _, _, rfl, ?_, ⟨_, rfl⟩, hW, hsame.mono (by decide) (by decide)⟩
    · show Steps p.tables e below (T37.setTop (mkF m 136 #[.val (.int x1), .val (.long x2), .second, .val (.long x3), .second, .val (.long x4), .second, .val (.long x5), .second, .val (.long x6), .second, .val (.ref b1), .val (.int (0 : Int32)), .val (.int (1 : Int32)), .val (.long (if x5 < x4 then x5 else x4)), .second, .unset] [])) _
      refine XS.aload X37.here hx rfl (hb hby at_136) rfl rfl ?_
      show Steps p.tables e below (T37.setTop (mkF m 138 #[.val (.int x1), .val (.long x2), .second, .val (.long x3), .second, .val (.long x4), .second, .val (.long x5), .second, .val (.long x6), .second, .val (.ref b1), .val (.int (0 : Int32)), .val (.int (1 : Int32)), .val (.long (if x5 < x4 then x5 else x4)), .second, .unset] [(.ref b1)])) _
      refine st41 _ ?_
      show Steps p.tables e below (T41.setTop (mkF m 141 #[.val (.int x1), .val (.long x2), .second, .val (.long x3), .second, .val (.long x4), .second, .val (.long x5), .second, .val (.long x6), .second, .val (.ref b1), .val (.int (0 : Int32)), .val (.int (1 : Int32)), .val (.long (if x5 < x4 then x5 else x4)), .second, .unset] [(.ref b5_1)])) _
      refine XS.iload X41.here hx rfl (hb hby at_141) rfl ?_
      show Steps p.tables e below (T41.setTop (mkF m 143 #[.val (.int x1), .val (.long x2), .second, .val (.long x3), .second, .val (.long x4), .second, .val (.long x5), .second, .val (.long x6), .second, .val (.ref b1), .val (.int (0 : Int32)), .val (.int (1 : Int32)), .val (.long (if x5 < x4 then x5 else x4)), .second, .unset] [(.int (0 : Int32)), (.ref b5_1)])) _
      refine X41.laload hx (j := (0 : Int32)) (v := (.long (x2 + x3))) (by rw [e41]; exact Ar42.1) (State.isArrayOf_alike hZ.alike Ar42.2.1) Ar42.2.2 hin42 (H42.at hin42 rfl) (g := (mkF m 143 #[.val (.int x1), .val (.long x2), .second, .val (.long x3), .second, .val (.long x4), .second, .val (.long x5), .second, .val (.long x6), .second, .val (.ref b1), .val (.int (0 : Int32)), .val (.int (1 : Int32)), .val (.long (if x5 < x4 then x5 else x4)), .second, .unset] [(.int (0 : Int32)), (.ref b5_1)])) rfl rfl (hb hby at_143) _ ?_
      show Steps p.tables e below (T41.setTop (mkF m 144 #[.val (.int x1), .val (.long x2), .second, .val (.long x3), .second, .val (.long x4), .second, .val (.long x5), .second, .val (.long x6), .second, .val (.ref b1), .val (.int (0 : Int32)), .val (.int (1 : Int32)), .val (.long (if x5 < x4 then x5 else x4)), .second, .unset] [(.long (x2 + x3))])) _
      refine XS.lloadN X41.here hx rfl (hb hby at_144) rfl ?_
      show Steps p.tables e below (T41.setTop (mkF m 145 #[.val (.int x1), .val (.long x2), .second, .val (.long x3), .second, .val (.long x4), .second, .val (.long x5), .second, .val (.long x6), .second, .val (.ref b1), .val (.int (0 : Int32)), .val (.int (1 : Int32)), .val (.long (if x5 < x4 then x5 else x4)), .second, .unset] [(.long x2), (.long (x2 + x3))])) _
      refine XS.lloadN X41.here hx rfl (hb hby at_145) rfl ?_
      show Steps p.tables e below (T41.setTop (mkF m 146 #[.val (.int x1), .val (.long x2), .second, .val (.long x3), .second, .val (.long x4), .second, .val (.long x5), .second, .val (.long x6), .second, .val (.ref b1), .val (.int (0 : Int32)), .val (.int (1 : Int32)), .val (.long (if x5 < x4 then x5 else x4)), .second, .unset] [(.long x3), (.long x2), (.long (x2 + x3))])) _
      refine XS.ladd X41.here hx rfl (hb hby at_146) rfl ?_
      show Steps p.tables e below (T41.setTop (mkF m 147 #[.val (.int x1), .val (.long x2), .second, .val (.long x3), .second, .val (.long x4), .second, .val (.long x5), .second, .val (.long x6), .second, .val (.ref b1), .val (.int (0 : Int32)), .val (.int (1 : Int32)), .val (.long (if x5 < x4 then x5 else x4)), .second, .unset] [(.long (x2 + x3)), (.long (x2 + x3))])) _
      refine XS.lcmp X41.here hx rfl (hb hby at_147) rfl ?_
      show Steps p.tables e below (T41.setTop (mkF m 148 #[.val (.int x1), .val (.long x2), .second, .val (.long x3), .second, .val (.long x4), .second, .val (.long x5), .second, .val (.long x6), .second, .val (.ref b1), .val (.int (0 : Int32)), .val (.int (1 : Int32)), .val (.long (if x5 < x4 then x5 else x4)), .second, .unset] [(.int (lcmpW (x2 + x3) (x2 + x3)))])) _
      refine XS.ifNo X41.here hx rfl (hb hby at_148) rfl ((if0 _ _).trans (teq ((lw_eq _ _).mpr (rfl : (x2 + x3) = (x2 + x3)))).2) ?_
      show Steps p.tables e below (T41.setTop (mkF m 151 #[.val (.int x1), .val (.long x2), .second, .val (.long x3), .second, .val (.long x4), .second, .val (.long x5), .second, .val (.long x6), .second, .val (.ref b1), .val (.int (0 : Int32)), .val (.int (1 : Int32)), .val (.long (if x5 < x4 then x5 else x4)), .second, .unset] [])) _
      refine XS.iconst X41.here hx rfl (hb hby at_151) ?_
      show Steps p.tables e below (T41.setTop (mkF m 152 #[.val (.int x1), .val (.long x2), .second, .val (.long x3), .second, .val (.long x4), .second, .val (.long x5), .second, .val (.long x6), .second, .val (.ref b1), .val (.int (0 : Int32)), .val (.int (1 : Int32)), .val (.long (if x5 < x4 then x5 else x4)), .second, .unset] [(.int (1 : Int32))])) _
      refine XS.goto X41.here hx rfl (pc0 := 152) (pc' := 156) rfl (hb hby at_152) (by decide) (by decide) ?_
      show Steps p.tables e below (T41.setTop (mkF m 156 #[.val (.int x1), .val (.long x2), .second, .val (.long x3), .second, .val (.long x4), .second, .val (.long x5), .second, .val (.long x6), .second, .val (.ref b1), .val (.int (0 : Int32)), .val (.int (1 : Int32)), .val (.long (if x5 < x4 then x5 else x4)), .second, .unset] [(.int (1 : Int32))])) _
      refine XS.istore X41.here hx rfl (hb hby at_156) rfl (l' := #[.val (.int x1), .val (.long x2), .second, .val (.long x3), .second, .val (.long x4), .second, .val (.long x5), .second, .val (.long x6), .second, .val (.ref b1), .val (.int (0 : Int32)), .val (.int (1 : Int32)), .val (.long (if x5 < x4 then x5 else x4)), .second, .val (.int (1 : Int32))]) rfl ?_
      show Steps p.tables e below (T41.setTop (mkF m 158 #[.val (.int x1), .val (.long x2), .second, .val (.long x3), .second, .val (.long x4), .second, .val (.long x5), .second, .val (.long x6), .second, .val (.ref b1), .val (.int (0 : Int32)), .val (.int (1 : Int32)), .val (.long (if x5 < x4 then x5 else x4)), .second, .val (.int (1 : Int32))] [])) _
      refine XS.iload X41.here hx rfl (hb hby at_158) rfl ?_
      show Steps p.tables e below (T41.setTop (mkF m 160 #[.val (.int x1), .val (.long x2), .second, .val (.long x3), .second, .val (.long x4), .second, .val (.long x5), .second, .val (.long x6), .second, .val (.ref b1), .val (.int (0 : Int32)), .val (.int (1 : Int32)), .val (.long (if x5 < x4 then x5 else x4)), .second, .val (.int (1 : Int32))] [(.int (1 : Int32))])) _
      refine XS.ifNo X41.here hx rfl (hb hby at_160) rfl ((if0 _ _).trans (feq (by decide : ¬ ((1 : Int32) = (0 : Int32)))).1) ?_
      show Steps p.tables e below (T41.setTop (mkF m 163 #[.val (.int x1), .val (.long x2), .second, .val (.long x3), .second, .val (.long x4), .second, .val (.long x5), .second, .val (.long x6), .second, .val (.ref b1), .val (.int (0 : Int32)), .val (.int (1 : Int32)), .val (.long (if x5 < x4 then x5 else x4)), .second, .val (.int (1 : Int32))] [])) _
      refine XS.aload X41.here hx rfl (hb hby at_163) rfl rfl ?_
      show Steps p.tables e below (T41.setTop (mkF m 165 #[.val (.int x1), .val (.long x2), .second, .val (.long x3), .second, .val (.long x4), .second, .val (.long x5), .second, .val (.long x6), .second, .val (.ref b1), .val (.int (0 : Int32)), .val (.int (1 : Int32)), .val (.long (if x5 < x4 then x5 else x4)), .second, .val (.int (1 : Int32))] [(.ref b1)])) _
      refine st43 _ ?_
      show Steps p.tables e below (T43.setTop (mkF m 168 #[.val (.int x1), .val (.long x2), .second, .val (.long x3), .second, .val (.long x4), .second, .val (.long x5), .second, .val (.long x6), .second, .val (.ref b1), .val (.int (0 : Int32)), .val (.int (1 : Int32)), .val (.long (if x5 < x4 then x5 else x4)), .second, .val (.int (1 : Int32))] [(.ref b5_4)])) _
      refine XS.iload X43.here hx rfl (hb hby at_168) rfl ?_
      show Steps p.tables e below (T43.setTop (mkF m 170 #[.val (.int x1), .val (.long x2), .second, .val (.long x3), .second, .val (.long x4), .second, .val (.long x5), .second, .val (.long x6), .second, .val (.ref b1), .val (.int (0 : Int32)), .val (.int (1 : Int32)), .val (.long (if x5 < x4 then x5 else x4)), .second, .val (.int (1 : Int32))] [(.int (0 : Int32)), (.ref b5_4)])) _
      refine X43.laload hx (j := (0 : Int32)) (v := (.long (if x5 < x4 then x5 else x4))) (by rw [e43]; exact Ar44.1) (State.isArrayOf_alike hZ.alike Ar44.2.1) Ar44.2.2 hin44 (H44.at hin44 rfl) (g := (mkF m 170 #[.val (.int x1), .val (.long x2), .second, .val (.long x3), .second, .val (.long x4), .second, .val (.long x5), .second, .val (.long x6), .second, .val (.ref b1), .val (.int (0 : Int32)), .val (.int (1 : Int32)), .val (.long (if x5 < x4 then x5 else x4)), .second, .val (.int (1 : Int32))] [(.int (0 : Int32)), (.ref b5_4)])) rfl rfl (hb hby at_170) _ ?_
      show Steps p.tables e below (T43.setTop (mkF m 171 #[.val (.int x1), .val (.long x2), .second, .val (.long x3), .second, .val (.long x4), .second, .val (.long x5), .second, .val (.long x6), .second, .val (.ref b1), .val (.int (0 : Int32)), .val (.int (1 : Int32)), .val (.long (if x5 < x4 then x5 else x4)), .second, .val (.int (1 : Int32))] [(.long (if x5 < x4 then x5 else x4))])) _
      refine XS.lload X43.here hx rfl (hb hby at_171) rfl ?_
      show Steps p.tables e below (T43.setTop (mkF m 173 #[.val (.int x1), .val (.long x2), .second, .val (.long x3), .second, .val (.long x4), .second, .val (.long x5), .second, .val (.long x6), .second, .val (.ref b1), .val (.int (0 : Int32)), .val (.int (1 : Int32)), .val (.long (if x5 < x4 then x5 else x4)), .second, .val (.int (1 : Int32))] [(.long (if x5 < x4 then x5 else x4)), (.long (if x5 < x4 then x5 else x4))])) _
      refine XS.lcmp X43.here hx rfl (hb hby at_173) rfl ?_
      show Steps p.tables e below (T43.setTop (mkF m 174 #[.val (.int x1), .val (.long x2), .second, .val (.long x3), .second, .val (.long x4), .second, .val (.long x5), .second, .val (.long x6), .second, .val (.ref b1), .val (.int (0 : Int32)), .val (.int (1 : Int32)), .val (.long (if x5 < x4 then x5 else x4)), .second, .val (.int (1 : Int32))] [(.int (lcmpW (if x5 < x4 then x5 else x4) (if x5 < x4 then x5 else x4)))])) _
      refine XS.ifNo X43.here hx rfl (hb hby at_174) rfl ((if0 _ _).trans (teq ((lw_eq _ _).mpr (rfl : (if x5 < x4 then x5 else x4) = (if x5 < x4 then x5 else x4)))).2) ?_
      show Steps p.tables e below (T43.setTop (mkF m 177 #[.val (.int x1), .val (.long x2), .second, .val (.long x3), .second, .val (.long x4), .second, .val (.long x5), .second, .val (.long x6), .second, .val (.ref b1), .val (.int (0 : Int32)), .val (.int (1 : Int32)), .val (.long (if x5 < x4 then x5 else x4)), .second, .val (.int (1 : Int32))] [])) _
      refine XS.iconst X43.here hx rfl (hb hby at_177) ?_
      show Steps p.tables e below (T43.setTop (mkF m 178 #[.val (.int x1), .val (.long x2), .second, .val (.long x3), .second, .val (.long x4), .second, .val (.long x5), .second, .val (.long x6), .second, .val (.ref b1), .val (.int (0 : Int32)), .val (.int (1 : Int32)), .val (.long (if x5 < x4 then x5 else x4)), .second, .val (.int (1 : Int32))] [(.int (1 : Int32))])) _
      refine XS.goto X43.here hx rfl (pc0 := 178) (pc' := 182) rfl (hb hby at_178) (by decide) (by decide) ?_
      show Steps p.tables e below (T43.setTop (mkF m 182 #[.val (.int x1), .val (.long x2), .second, .val (.long x3), .second, .val (.long x4), .second, .val (.long x5), .second, .val (.long x6), .second, .val (.ref b1), .val (.int (0 : Int32)), .val (.int (1 : Int32)), .val (.long (if x5 < x4 then x5 else x4)), .second, .val (.int (1 : Int32))] [(.int (1 : Int32))])) _
      refine XS.istore X43.here hx rfl (hb hby at_182) rfl (l' := #[.val (.int x1), .val (.long x2), .second, .val (.long x3), .second, .val (.long x4), .second, .val (.long x5), .second, .val (.long x6), .second, .val (.ref b1), .val (.int (0 : Int32)), .val (.int (1 : Int32)), .val (.long (if x5 < x4 then x5 else x4)), .second, .val (.int (1 : Int32))]) rfl ?_
      show Steps p.tables e below (T43.setTop (mkF m 184 #[.val (.int x1), .val (.long x2), .second, .val (.long x3), .second, .val (.long x4), .second, .val (.long x5), .second, .val (.long x6), .second, .val (.ref b1), .val (.int (0 : Int32)), .val (.int (1 : Int32)), .val (.long (if x5 < x4 then x5 else x4)), .second, .val (.int (1 : Int32))] [])) _
      refine XS.iload X43.here hx rfl (hb hby at_184) rfl ?_
      show Steps p.tables e below (T43.setTop (mkF m 186 #[.val (.int x1), .val (.long x2), .second, .val (.long x3), .second, .val (.long x4), .second, .val (.long x5), .second, .val (.long x6), .second, .val (.ref b1), .val (.int (0 : Int32)), .val (.int (1 : Int32)), .val (.long (if x5 < x4 then x5 else x4)), .second, .val (.int (1 : Int32))] [(.int (1 : Int32))])) _
      refine XS.ifNo X43.here hx rfl (hb hby at_186) rfl ((if0 _ _).trans (feq (by decide : ¬ ((1 : Int32) = (0 : Int32)))).1) ?_
      show Steps p.tables e below (T43.setTop (mkF m 189 #[.val (.int x1), .val (.long x2), .second, .val (.long x3), .second, .val (.long x4), .second, .val (.long x5), .second, .val (.long x6), .second, .val (.ref b1), .val (.int (0 : Int32)), .val (.int (1 : Int32)), .val (.long (if x5 < x4 then x5 else x4)), .second, .val (.int (1 : Int32))] [])) _
      refine XS.aload X43.here hx rfl (hb hby at_189) rfl rfl ?_
      show Steps p.tables e below (T43.setTop (mkF m 191 #[.val (.int x1), .val (.long x2), .second, .val (.long x3), .second, .val (.long x4), .second, .val (.long x5), .second, .val (.long x6), .second, .val (.ref b1), .val (.int (0 : Int32)), .val (.int (1 : Int32)), .val (.long (if x5 < x4 then x5 else x4)), .second, .val (.int (1 : Int32))] [(.ref b1)])) _
      refine st45 _ ?_
      show Steps p.tables e below (T45.setTop (mkF m 194 #[.val (.int x1), .val (.long x2), .second, .val (.long x3), .second, .val (.long x4), .second, .val (.long x5), .second, .val (.long x6), .second, .val (.ref b1), .val (.int (0 : Int32)), .val (.int (1 : Int32)), .val (.long (if x5 < x4 then x5 else x4)), .second, .val (.int (1 : Int32))] [(.ref b5_1)])) _
      refine XS.iload X45.here hx rfl (hb hby at_194) rfl ?_
      show Steps p.tables e below (T45.setTop (mkF m 196 #[.val (.int x1), .val (.long x2), .second, .val (.long x3), .second, .val (.long x4), .second, .val (.long x5), .second, .val (.long x6), .second, .val (.ref b1), .val (.int (0 : Int32)), .val (.int (1 : Int32)), .val (.long (if x5 < x4 then x5 else x4)), .second, .val (.int (1 : Int32))] [(.int (1 : Int32)), (.ref b5_1)])) _
      refine X45.laload hx (j := (1 : Int32)) (v := (.long x6)) (by rw [e45]; exact Ar46.1) (State.isArrayOf_alike hZ.alike Ar46.2.1) Ar46.2.2 hin46 (H46.at hin46 rfl) (g := (mkF m 196 #[.val (.int x1), .val (.long x2), .second, .val (.long x3), .second, .val (.long x4), .second, .val (.long x5), .second, .val (.long x6), .second, .val (.ref b1), .val (.int (0 : Int32)), .val (.int (1 : Int32)), .val (.long (if x5 < x4 then x5 else x4)), .second, .val (.int (1 : Int32))] [(.int (1 : Int32)), (.ref b5_1)])) rfl rfl (hb hby at_196) _ ?_
      show Steps p.tables e below (T45.setTop (mkF m 197 #[.val (.int x1), .val (.long x2), .second, .val (.long x3), .second, .val (.long x4), .second, .val (.long x5), .second, .val (.long x6), .second, .val (.ref b1), .val (.int (0 : Int32)), .val (.int (1 : Int32)), .val (.long (if x5 < x4 then x5 else x4)), .second, .val (.int (1 : Int32))] [(.long x6)])) _
      refine XS.lload X45.here hx rfl (hb hby at_197) rfl ?_
      show Steps p.tables e below (T45.setTop (mkF m 199 #[.val (.int x1), .val (.long x2), .second, .val (.long x3), .second, .val (.long x4), .second, .val (.long x5), .second, .val (.long x6), .second, .val (.ref b1), .val (.int (0 : Int32)), .val (.int (1 : Int32)), .val (.long (if x5 < x4 then x5 else x4)), .second, .val (.int (1 : Int32))] [(.long x6), (.long x6)])) _
      refine XS.lcmp X45.here hx rfl (hb hby at_199) rfl ?_
      show Steps p.tables e below (T45.setTop (mkF m 200 #[.val (.int x1), .val (.long x2), .second, .val (.long x3), .second, .val (.long x4), .second, .val (.long x5), .second, .val (.long x6), .second, .val (.ref b1), .val (.int (0 : Int32)), .val (.int (1 : Int32)), .val (.long (if x5 < x4 then x5 else x4)), .second, .val (.int (1 : Int32))] [(.int (lcmpW x6 x6))])) _
      refine XS.ifNo X45.here hx rfl (hb hby at_200) rfl ((if0 _ _).trans (teq ((lw_eq _ _).mpr (rfl : x6 = x6))).2) ?_
      show Steps p.tables e below (T45.setTop (mkF m 203 #[.val (.int x1), .val (.long x2), .second, .val (.long x3), .second, .val (.long x4), .second, .val (.long x5), .second, .val (.long x6), .second, .val (.ref b1), .val (.int (0 : Int32)), .val (.int (1 : Int32)), .val (.long (if x5 < x4 then x5 else x4)), .second, .val (.int (1 : Int32))] [])) _
      refine XS.iconst X45.here hx rfl (hb hby at_203) ?_
      show Steps p.tables e below (T45.setTop (mkF m 204 #[.val (.int x1), .val (.long x2), .second, .val (.long x3), .second, .val (.long x4), .second, .val (.long x5), .second, .val (.long x6), .second, .val (.ref b1), .val (.int (0 : Int32)), .val (.int (1 : Int32)), .val (.long (if x5 < x4 then x5 else x4)), .second, .val (.int (1 : Int32))] [(.int (1 : Int32))])) _
      refine XS.goto X45.here hx rfl (pc0 := 204) (pc' := 208) rfl (hb hby at_204) (by decide) (by decide) ?_
      show Steps p.tables e below (T45.setTop (mkF m 208 #[.val (.int x1), .val (.long x2), .second, .val (.long x3), .second, .val (.long x4), .second, .val (.long x5), .second, .val (.long x6), .second, .val (.ref b1), .val (.int (0 : Int32)), .val (.int (1 : Int32)), .val (.long (if x5 < x4 then x5 else x4)), .second, .val (.int (1 : Int32))] [(.int (1 : Int32))])) _
      refine XS.istore X45.here hx rfl (hb hby at_208) rfl (l' := #[.val (.int x1), .val (.long x2), .second, .val (.long x3), .second, .val (.long x4), .second, .val (.long x5), .second, .val (.long x6), .second, .val (.ref b1), .val (.int (0 : Int32)), .val (.int (1 : Int32)), .val (.long (if x5 < x4 then x5 else x4)), .second, .val (.int (1 : Int32))]) rfl ?_
      show Steps p.tables e below (T45.setTop (mkF m 210 #[.val (.int x1), .val (.long x2), .second, .val (.long x3), .second, .val (.long x4), .second, .val (.long x5), .second, .val (.long x6), .second, .val (.ref b1), .val (.int (0 : Int32)), .val (.int (1 : Int32)), .val (.long (if x5 < x4 then x5 else x4)), .second, .val (.int (1 : Int32))] [])) _
      refine XS.iload X45.here hx rfl (hb hby at_210) rfl ?_
      show Steps p.tables e below (T45.setTop (mkF m 212 #[.val (.int x1), .val (.long x2), .second, .val (.long x3), .second, .val (.long x4), .second, .val (.long x5), .second, .val (.long x6), .second, .val (.ref b1), .val (.int (0 : Int32)), .val (.int (1 : Int32)), .val (.long (if x5 < x4 then x5 else x4)), .second, .val (.int (1 : Int32))] [(.int (1 : Int32))])) _
      refine XS.ifNo X45.here hx rfl (hb hby at_212) rfl ((if0 _ _).trans (feq (by decide : ¬ ((1 : Int32) = (0 : Int32)))).1) ?_
      show Steps p.tables e below (T45.setTop (mkF m 215 #[.val (.int x1), .val (.long x2), .second, .val (.long x3), .second, .val (.long x4), .second, .val (.long x5), .second, .val (.long x6), .second, .val (.ref b1), .val (.int (0 : Int32)), .val (.int (1 : Int32)), .val (.long (if x5 < x4 then x5 else x4)), .second, .val (.int (1 : Int32))] [])) _
      refine XS.aload X45.here hx rfl (hb hby at_215) rfl rfl ?_
      show Steps p.tables e below (T45.setTop (mkF m 217 #[.val (.int x1), .val (.long x2), .second, .val (.long x3), .second, .val (.long x4), .second, .val (.long x5), .second, .val (.long x6), .second, .val (.ref b1), .val (.int (0 : Int32)), .val (.int (1 : Int32)), .val (.long (if x5 < x4 then x5 else x4)), .second, .val (.int (1 : Int32))] [(.ref b1)])) _
      refine st47 _ ?_
      show Steps p.tables e below (T47.setTop (mkF m 220 #[.val (.int x1), .val (.long x2), .second, .val (.long x3), .second, .val (.long x4), .second, .val (.long x5), .second, .val (.long x6), .second, .val (.ref b1), .val (.int (0 : Int32)), .val (.int (1 : Int32)), .val (.long (if x5 < x4 then x5 else x4)), .second, .val (.int (1 : Int32))] [(.ref b5_4)])) _
      refine XS.iload X47.here hx rfl (hb hby at_220) rfl ?_
      show Steps p.tables e below (T47.setTop (mkF m 222 #[.val (.int x1), .val (.long x2), .second, .val (.long x3), .second, .val (.long x4), .second, .val (.long x5), .second, .val (.long x6), .second, .val (.ref b1), .val (.int (0 : Int32)), .val (.int (1 : Int32)), .val (.long (if x5 < x4 then x5 else x4)), .second, .val (.int (1 : Int32))] [(.int (1 : Int32)), (.ref b5_4)])) _
      refine X47.laload hx (j := (1 : Int32)) (v := (.long (x6 ^^^ (-1 : Int64)))) (by rw [e47]; exact Ar48.1) (State.isArrayOf_alike hZ.alike Ar48.2.1) Ar48.2.2 hin48 (H48.at hin48 rfl) (g := (mkF m 222 #[.val (.int x1), .val (.long x2), .second, .val (.long x3), .second, .val (.long x4), .second, .val (.long x5), .second, .val (.long x6), .second, .val (.ref b1), .val (.int (0 : Int32)), .val (.int (1 : Int32)), .val (.long (if x5 < x4 then x5 else x4)), .second, .val (.int (1 : Int32))] [(.int (1 : Int32)), (.ref b5_4)])) rfl rfl (hb hby at_222) _ ?_
      show Steps p.tables e below (T47.setTop (mkF m 223 #[.val (.int x1), .val (.long x2), .second, .val (.long x3), .second, .val (.long x4), .second, .val (.long x5), .second, .val (.long x6), .second, .val (.ref b1), .val (.int (0 : Int32)), .val (.int (1 : Int32)), .val (.long (if x5 < x4 then x5 else x4)), .second, .val (.int (1 : Int32))] [(.long (x6 ^^^ (-1 : Int64)))])) _
      refine XS.lload X47.here hx rfl (hb hby at_223) rfl ?_
      show Steps p.tables e below (T47.setTop (mkF m 225 #[.val (.int x1), .val (.long x2), .second, .val (.long x3), .second, .val (.long x4), .second, .val (.long x5), .second, .val (.long x6), .second, .val (.ref b1), .val (.int (0 : Int32)), .val (.int (1 : Int32)), .val (.long (if x5 < x4 then x5 else x4)), .second, .val (.int (1 : Int32))] [(.long x6), (.long (x6 ^^^ (-1 : Int64)))])) _
      refine X47.ldc2Long hx hown (mvT hZ (hw _ (List.mem_of_getElem? (i := 69) rfl))) (g := (mkF m 225 #[.val (.int x1), .val (.long x2), .second, .val (.long x3), .second, .val (.long x4), .second, .val (.long x5), .second, .val (.long x6), .second, .val (.ref b1), .val (.int (0 : Int32)), .val (.int (1 : Int32)), .val (.long (if x5 < x4 then x5 else x4)), .second, .val (.int (1 : Int32))] [(.long x6), (.long (x6 ^^^ (-1 : Int64)))])) rfl (hb hby at_225) _ ?_
      show Steps p.tables e below (T47.setTop (mkF m 228 #[.val (.int x1), .val (.long x2), .second, .val (.long x3), .second, .val (.long x4), .second, .val (.long x5), .second, .val (.long x6), .second, .val (.ref b1), .val (.int (0 : Int32)), .val (.int (1 : Int32)), .val (.long (if x5 < x4 then x5 else x4)), .second, .val (.int (1 : Int32))] [(.long (-1 : Int64)), (.long x6), (.long (x6 ^^^ (-1 : Int64)))])) _
      refine XS.lxor X47.here hx rfl (hb hby at_228) rfl ?_
      show Steps p.tables e below (T47.setTop (mkF m 229 #[.val (.int x1), .val (.long x2), .second, .val (.long x3), .second, .val (.long x4), .second, .val (.long x5), .second, .val (.long x6), .second, .val (.ref b1), .val (.int (0 : Int32)), .val (.int (1 : Int32)), .val (.long (if x5 < x4 then x5 else x4)), .second, .val (.int (1 : Int32))] [(.long (x6 ^^^ (-1 : Int64))), (.long (x6 ^^^ (-1 : Int64)))])) _
      refine XS.lcmp X47.here hx rfl (hb hby at_229) rfl ?_
      show Steps p.tables e below (T47.setTop (mkF m 230 #[.val (.int x1), .val (.long x2), .second, .val (.long x3), .second, .val (.long x4), .second, .val (.long x5), .second, .val (.long x6), .second, .val (.ref b1), .val (.int (0 : Int32)), .val (.int (1 : Int32)), .val (.long (if x5 < x4 then x5 else x4)), .second, .val (.int (1 : Int32))] [(.int (lcmpW (x6 ^^^ (-1 : Int64)) (x6 ^^^ (-1 : Int64))))])) _
      refine XS.ifNo X47.here hx rfl (hb hby at_230) rfl ((if0 _ _).trans (teq ((lw_eq _ _).mpr (rfl : (x6 ^^^ (-1 : Int64)) = (x6 ^^^ (-1 : Int64))))).2) ?_
      show Steps p.tables e below (T47.setTop (mkF m 233 #[.val (.int x1), .val (.long x2), .second, .val (.long x3), .second, .val (.long x4), .second, .val (.long x5), .second, .val (.long x6), .second, .val (.ref b1), .val (.int (0 : Int32)), .val (.int (1 : Int32)), .val (.long (if x5 < x4 then x5 else x4)), .second, .val (.int (1 : Int32))] [])) _
      refine XS.iconst X47.here hx rfl (hb hby at_233) ?_
      show Steps p.tables e below (T47.setTop (mkF m 234 #[.val (.int x1), .val (.long x2), .second, .val (.long x3), .second, .val (.long x4), .second, .val (.long x5), .second, .val (.long x6), .second, .val (.ref b1), .val (.int (0 : Int32)), .val (.int (1 : Int32)), .val (.long (if x5 < x4 then x5 else x4)), .second, .val (.int (1 : Int32))] [(.int (1 : Int32))])) _
      refine XS.goto X47.here hx rfl (pc0 := 234) (pc' := 238) rfl (hb hby at_234) (by decide) (by decide) ?_
      show Steps p.tables e below (T47.setTop (mkF m 238 #[.val (.int x1), .val (.long x2), .second, .val (.long x3), .second, .val (.long x4), .second, .val (.long x5), .second, .val (.long x6), .second, .val (.ref b1), .val (.int (0 : Int32)), .val (.int (1 : Int32)), .val (.long (if x5 < x4 then x5 else x4)), .second, .val (.int (1 : Int32))] [(.int (1 : Int32))])) _
      refine XS.istore X47.here hx rfl (hb hby at_238) rfl (l' := #[.val (.int x1), .val (.long x2), .second, .val (.long x3), .second, .val (.long x4), .second, .val (.long x5), .second, .val (.long x6), .second, .val (.ref b1), .val (.int (0 : Int32)), .val (.int (1 : Int32)), .val (.long (if x5 < x4 then x5 else x4)), .second, .val (.int (1 : Int32))]) rfl ?_
      show Steps p.tables e below (T47.setTop (mkF m 240 #[.val (.int x1), .val (.long x2), .second, .val (.long x3), .second, .val (.long x4), .second, .val (.long x5), .second, .val (.long x6), .second, .val (.ref b1), .val (.int (0 : Int32)), .val (.int (1 : Int32)), .val (.long (if x5 < x4 then x5 else x4)), .second, .val (.int (1 : Int32))] [])) _
      refine XS.iload X47.here hx rfl (hb hby at_240) rfl ?_
      show Steps p.tables e below (T47.setTop (mkF m 242 #[.val (.int x1), .val (.long x2), .second, .val (.long x3), .second, .val (.long x4), .second, .val (.long x5), .second, .val (.long x6), .second, .val (.ref b1), .val (.int (0 : Int32)), .val (.int (1 : Int32)), .val (.long (if x5 < x4 then x5 else x4)), .second, .val (.int (1 : Int32))] [(.int (1 : Int32))])) _
      refine XS.ifNo X47.here hx rfl (hb hby at_242) rfl ((if0 _ _).trans (feq (by decide : ¬ ((1 : Int32) = (0 : Int32)))).1) ?_
      show Steps p.tables e below (T47.setTop (mkF m 245 #[.val (.int x1), .val (.long x2), .second, .val (.long x3), .second, .val (.long x4), .second, .val (.long x5), .second, .val (.long x6), .second, .val (.ref b1), .val (.int (0 : Int32)), .val (.int (1 : Int32)), .val (.long (if x5 < x4 then x5 else x4)), .second, .val (.int (1 : Int32))] [])) _
      refine XS.aload X47.here hx rfl (hb hby at_245) rfl rfl ?_
      show Steps p.tables e below (T47.setTop (mkF m 247 #[.val (.int x1), .val (.long x2), .second, .val (.long x3), .second, .val (.long x4), .second, .val (.long x5), .second, .val (.long x6), .second, .val (.ref b1), .val (.int (0 : Int32)), .val (.int (1 : Int32)), .val (.long (if x5 < x4 then x5 else x4)), .second, .val (.int (1 : Int32))] [(.ref b1)])) _
      refine st49 _ ?_
      show Steps p.tables e below (T49.setTop (mkF m 250 #[.val (.int x1), .val (.long x2), .second, .val (.long x3), .second, .val (.long x4), .second, .val (.long x5), .second, .val (.long x6), .second, .val (.ref b1), .val (.int (0 : Int32)), .val (.int (1 : Int32)), .val (.long (if x5 < x4 then x5 else x4)), .second, .val (.int (1 : Int32))] [(.ref b5_0)])) _
      refine XS.iload X49.here hx rfl (hb hby at_250) rfl ?_
      show Steps p.tables e below (T49.setTop (mkF m 252 #[.val (.int x1), .val (.long x2), .second, .val (.long x3), .second, .val (.long x4), .second, .val (.long x5), .second, .val (.long x6), .second, .val (.ref b1), .val (.int (0 : Int32)), .val (.int (1 : Int32)), .val (.long (if x5 < x4 then x5 else x4)), .second, .val (.int (1 : Int32))] [(.int (0 : Int32)), (.ref b5_0)])) _
      refine X49.laload hx (j := (0 : Int32)) (v := (.long (x6 ^^^ (5 : Int64)))) (by rw [e49]; exact Ar50.1) (State.isArrayOf_alike hZ.alike Ar50.2.1) Ar50.2.2 hin50 (H50.at hin50 rfl) (g := (mkF m 252 #[.val (.int x1), .val (.long x2), .second, .val (.long x3), .second, .val (.long x4), .second, .val (.long x5), .second, .val (.long x6), .second, .val (.ref b1), .val (.int (0 : Int32)), .val (.int (1 : Int32)), .val (.long (if x5 < x4 then x5 else x4)), .second, .val (.int (1 : Int32))] [(.int (0 : Int32)), (.ref b5_0)])) rfl rfl (hb hby at_252) _ ?_
      show Steps p.tables e below (T49.setTop (mkF m 253 #[.val (.int x1), .val (.long x2), .second, .val (.long x3), .second, .val (.long x4), .second, .val (.long x5), .second, .val (.long x6), .second, .val (.ref b1), .val (.int (0 : Int32)), .val (.int (1 : Int32)), .val (.long (if x5 < x4 then x5 else x4)), .second, .val (.int (1 : Int32))] [(.long (x6 ^^^ (5 : Int64)))])) _
      refine XS.lload X49.here hx rfl (hb hby at_253) rfl ?_
      show Steps p.tables e below (T49.setTop (mkF m 255 #[.val (.int x1), .val (.long x2), .second, .val (.long x3), .second, .val (.long x4), .second, .val (.long x5), .second, .val (.long x6), .second, .val (.ref b1), .val (.int (0 : Int32)), .val (.int (1 : Int32)), .val (.long (if x5 < x4 then x5 else x4)), .second, .val (.int (1 : Int32))] [(.long x6), (.long (x6 ^^^ (5 : Int64)))])) _
      refine X49.ldc2Long hx hown (mvT hZ (hw _ (List.mem_of_getElem? (i := 71) rfl))) (g := (mkF m 255 #[.val (.int x1), .val (.long x2), .second, .val (.long x3), .second, .val (.long x4), .second, .val (.long x5), .second, .val (.long x6), .second, .val (.ref b1), .val (.int (0 : Int32)), .val (.int (1 : Int32)), .val (.long (if x5 < x4 then x5 else x4)), .second, .val (.int (1 : Int32))] [(.long x6), (.long (x6 ^^^ (5 : Int64)))])) rfl (hb hby at_255) _ ?_
      show Steps p.tables e below (T49.setTop (mkF m 258 #[.val (.int x1), .val (.long x2), .second, .val (.long x3), .second, .val (.long x4), .second, .val (.long x5), .second, .val (.long x6), .second, .val (.ref b1), .val (.int (0 : Int32)), .val (.int (1 : Int32)), .val (.long (if x5 < x4 then x5 else x4)), .second, .val (.int (1 : Int32))] [(.long (5 : Int64)), (.long x6), (.long (x6 ^^^ (5 : Int64)))])) _
      refine XS.lxor X49.here hx rfl (hb hby at_258) rfl ?_
      show Steps p.tables e below (T49.setTop (mkF m 259 #[.val (.int x1), .val (.long x2), .second, .val (.long x3), .second, .val (.long x4), .second, .val (.long x5), .second, .val (.long x6), .second, .val (.ref b1), .val (.int (0 : Int32)), .val (.int (1 : Int32)), .val (.long (if x5 < x4 then x5 else x4)), .second, .val (.int (1 : Int32))] [(.long (x6 ^^^ (5 : Int64))), (.long (x6 ^^^ (5 : Int64)))])) _
      refine XS.lcmp X49.here hx rfl (hb hby at_259) rfl ?_
      show Steps p.tables e below (T49.setTop (mkF m 260 #[.val (.int x1), .val (.long x2), .second, .val (.long x3), .second, .val (.long x4), .second, .val (.long x5), .second, .val (.long x6), .second, .val (.ref b1), .val (.int (0 : Int32)), .val (.int (1 : Int32)), .val (.long (if x5 < x4 then x5 else x4)), .second, .val (.int (1 : Int32))] [(.int (lcmpW (x6 ^^^ (5 : Int64)) (x6 ^^^ (5 : Int64))))])) _
      refine XS.ifNo X49.here hx rfl (hb hby at_260) rfl ((if0 _ _).trans (teq ((lw_eq _ _).mpr (rfl : (x6 ^^^ (5 : Int64)) = (x6 ^^^ (5 : Int64))))).2) ?_
      show Steps p.tables e below (T49.setTop (mkF m 263 #[.val (.int x1), .val (.long x2), .second, .val (.long x3), .second, .val (.long x4), .second, .val (.long x5), .second, .val (.long x6), .second, .val (.ref b1), .val (.int (0 : Int32)), .val (.int (1 : Int32)), .val (.long (if x5 < x4 then x5 else x4)), .second, .val (.int (1 : Int32))] [])) _
      refine XS.iconst X49.here hx rfl (hb hby at_263) ?_
      show Steps p.tables e below (T49.setTop (mkF m 264 #[.val (.int x1), .val (.long x2), .second, .val (.long x3), .second, .val (.long x4), .second, .val (.long x5), .second, .val (.long x6), .second, .val (.ref b1), .val (.int (0 : Int32)), .val (.int (1 : Int32)), .val (.long (if x5 < x4 then x5 else x4)), .second, .val (.int (1 : Int32))] [(.int (1 : Int32))])) _
      refine XS.goto X49.here hx rfl (pc0 := 264) (pc' := 268) rfl (hb hby at_264) (by decide) (by decide) ?_
      show Steps p.tables e below (T49.setTop (mkF m 268 #[.val (.int x1), .val (.long x2), .second, .val (.long x3), .second, .val (.long x4), .second, .val (.long x5), .second, .val (.long x6), .second, .val (.ref b1), .val (.int (0 : Int32)), .val (.int (1 : Int32)), .val (.long (if x5 < x4 then x5 else x4)), .second, .val (.int (1 : Int32))] [(.int (1 : Int32))])) _
      refine XS.istore X49.here hx rfl (hb hby at_268) rfl (l' := #[.val (.int x1), .val (.long x2), .second, .val (.long x3), .second, .val (.long x4), .second, .val (.long x5), .second, .val (.long x6), .second, .val (.ref b1), .val (.int (0 : Int32)), .val (.int (1 : Int32)), .val (.long (if x5 < x4 then x5 else x4)), .second, .val (.int (1 : Int32))]) rfl ?_
      show Steps p.tables e below (T49.setTop (mkF m 270 #[.val (.int x1), .val (.long x2), .second, .val (.long x3), .second, .val (.long x4), .second, .val (.long x5), .second, .val (.long x6), .second, .val (.ref b1), .val (.int (0 : Int32)), .val (.int (1 : Int32)), .val (.long (if x5 < x4 then x5 else x4)), .second, .val (.int (1 : Int32))] [])) _
      refine XS.iload X49.here hx rfl (hb hby at_270) rfl ?_
      show Steps p.tables e below (T49.setTop (mkF m 272 #[.val (.int x1), .val (.long x2), .second, .val (.long x3), .second, .val (.long x4), .second, .val (.long x5), .second, .val (.long x6), .second, .val (.ref b1), .val (.int (0 : Int32)), .val (.int (1 : Int32)), .val (.long (if x5 < x4 then x5 else x4)), .second, .val (.int (1 : Int32))] [(.int (1 : Int32))])) _
      refine XS.ifNo X49.here hx rfl (hb hby at_272) rfl ((if0 _ _).trans (feq (by decide : ¬ ((1 : Int32) = (0 : Int32)))).1) ?_
      show Steps p.tables e below (T49.setTop (mkF m 275 #[.val (.int x1), .val (.long x2), .second, .val (.long x3), .second, .val (.long x4), .second, .val (.long x5), .second, .val (.long x6), .second, .val (.ref b1), .val (.int (0 : Int32)), .val (.int (1 : Int32)), .val (.long (if x5 < x4 then x5 else x4)), .second, .val (.int (1 : Int32))] [])) _
      refine XS.aload X49.here hx rfl (hb hby at_275) rfl rfl ?_
      show Steps p.tables e below (T49.setTop (mkF m 277 #[.val (.int x1), .val (.long x2), .second, .val (.long x3), .second, .val (.long x4), .second, .val (.long x5), .second, .val (.long x6), .second, .val (.ref b1), .val (.int (0 : Int32)), .val (.int (1 : Int32)), .val (.long (if x5 < x4 then x5 else x4)), .second, .val (.int (1 : Int32))] [(.ref b1)])) _
      refine st51 _ ?_
      show Steps p.tables e below (T51.setTop (mkF m 280 #[.val (.int x1), .val (.long x2), .second, .val (.long x3), .second, .val (.long x4), .second, .val (.long x5), .second, .val (.long x6), .second, .val (.ref b1), .val (.int (0 : Int32)), .val (.int (1 : Int32)), .val (.long (if x5 < x4 then x5 else x4)), .second, .val (.int (1 : Int32))] [(.ref b5_2)])) _
      refine XS.iload X51.here hx rfl (hb hby at_280) rfl ?_
      show Steps p.tables e below (T51.setTop (mkF m 282 #[.val (.int x1), .val (.long x2), .second, .val (.long x3), .second, .val (.long x4), .second, .val (.long x5), .second, .val (.long x6), .second, .val (.ref b1), .val (.int (0 : Int32)), .val (.int (1 : Int32)), .val (.long (if x5 < x4 then x5 else x4)), .second, .val (.int (1 : Int32))] [(.int (0 : Int32)), (.ref b5_2)])) _
      refine X51.laload hx (j := (0 : Int32)) (v := (.long (x6 ^^^ (9 : Int64)))) (by rw [e51]; exact Ar52.1) (State.isArrayOf_alike hZ.alike Ar52.2.1) Ar52.2.2 hin52 (H52.at hin52 rfl) (g := (mkF m 282 #[.val (.int x1), .val (.long x2), .second, .val (.long x3), .second, .val (.long x4), .second, .val (.long x5), .second, .val (.long x6), .second, .val (.ref b1), .val (.int (0 : Int32)), .val (.int (1 : Int32)), .val (.long (if x5 < x4 then x5 else x4)), .second, .val (.int (1 : Int32))] [(.int (0 : Int32)), (.ref b5_2)])) rfl rfl (hb hby at_282) _ ?_
      show Steps p.tables e below (T51.setTop (mkF m 283 #[.val (.int x1), .val (.long x2), .second, .val (.long x3), .second, .val (.long x4), .second, .val (.long x5), .second, .val (.long x6), .second, .val (.ref b1), .val (.int (0 : Int32)), .val (.int (1 : Int32)), .val (.long (if x5 < x4 then x5 else x4)), .second, .val (.int (1 : Int32))] [(.long (x6 ^^^ (9 : Int64)))])) _
      refine XS.lload X51.here hx rfl (hb hby at_283) rfl ?_
      show Steps p.tables e below (T51.setTop (mkF m 285 #[.val (.int x1), .val (.long x2), .second, .val (.long x3), .second, .val (.long x4), .second, .val (.long x5), .second, .val (.long x6), .second, .val (.ref b1), .val (.int (0 : Int32)), .val (.int (1 : Int32)), .val (.long (if x5 < x4 then x5 else x4)), .second, .val (.int (1 : Int32))] [(.long x6), (.long (x6 ^^^ (9 : Int64)))])) _
      refine X51.ldc2Long hx hown (mvT hZ (hw _ (List.mem_of_getElem? (i := 73) rfl))) (g := (mkF m 285 #[.val (.int x1), .val (.long x2), .second, .val (.long x3), .second, .val (.long x4), .second, .val (.long x5), .second, .val (.long x6), .second, .val (.ref b1), .val (.int (0 : Int32)), .val (.int (1 : Int32)), .val (.long (if x5 < x4 then x5 else x4)), .second, .val (.int (1 : Int32))] [(.long x6), (.long (x6 ^^^ (9 : Int64)))])) rfl (hb hby at_285) _ ?_
      show Steps p.tables e below (T51.setTop (mkF m 288 #[.val (.int x1), .val (.long x2), .second, .val (.long x3), .second, .val (.long x4), .second, .val (.long x5), .second, .val (.long x6), .second, .val (.ref b1), .val (.int (0 : Int32)), .val (.int (1 : Int32)), .val (.long (if x5 < x4 then x5 else x4)), .second, .val (.int (1 : Int32))] [(.long (9 : Int64)), (.long x6), (.long (x6 ^^^ (9 : Int64)))])) _
      refine XS.lxor X51.here hx rfl (hb hby at_288) rfl ?_
      show Steps p.tables e below (T51.setTop (mkF m 289 #[.val (.int x1), .val (.long x2), .second, .val (.long x3), .second, .val (.long x4), .second, .val (.long x5), .second, .val (.long x6), .second, .val (.ref b1), .val (.int (0 : Int32)), .val (.int (1 : Int32)), .val (.long (if x5 < x4 then x5 else x4)), .second, .val (.int (1 : Int32))] [(.long (x6 ^^^ (9 : Int64))), (.long (x6 ^^^ (9 : Int64)))])) _
      refine XS.lcmp X51.here hx rfl (hb hby at_289) rfl ?_
      show Steps p.tables e below (T51.setTop (mkF m 290 #[.val (.int x1), .val (.long x2), .second, .val (.long x3), .second, .val (.long x4), .second, .val (.long x5), .second, .val (.long x6), .second, .val (.ref b1), .val (.int (0 : Int32)), .val (.int (1 : Int32)), .val (.long (if x5 < x4 then x5 else x4)), .second, .val (.int (1 : Int32))] [(.int (lcmpW (x6 ^^^ (9 : Int64)) (x6 ^^^ (9 : Int64))))])) _
      refine XS.ifNo X51.here hx rfl (hb hby at_290) rfl ((if0 _ _).trans (teq ((lw_eq _ _).mpr (rfl : (x6 ^^^ (9 : Int64)) = (x6 ^^^ (9 : Int64))))).2) ?_
      show Steps p.tables e below (T51.setTop (mkF m 293 #[.val (.int x1), .val (.long x2), .second, .val (.long x3), .second, .val (.long x4), .second, .val (.long x5), .second, .val (.long x6), .second, .val (.ref b1), .val (.int (0 : Int32)), .val (.int (1 : Int32)), .val (.long (if x5 < x4 then x5 else x4)), .second, .val (.int (1 : Int32))] [])) _
      refine XS.iconst X51.here hx rfl (hb hby at_293) ?_
      show Steps p.tables e below (T51.setTop (mkF m 294 #[.val (.int x1), .val (.long x2), .second, .val (.long x3), .second, .val (.long x4), .second, .val (.long x5), .second, .val (.long x6), .second, .val (.ref b1), .val (.int (0 : Int32)), .val (.int (1 : Int32)), .val (.long (if x5 < x4 then x5 else x4)), .second, .val (.int (1 : Int32))] [(.int (1 : Int32))])) _
      refine XS.goto X51.here hx rfl (pc0 := 294) (pc' := 298) rfl (hb hby at_294) (by decide) (by decide) ?_
      show Steps p.tables e below (T51.setTop (mkF m 298 #[.val (.int x1), .val (.long x2), .second, .val (.long x3), .second, .val (.long x4), .second, .val (.long x5), .second, .val (.long x6), .second, .val (.ref b1), .val (.int (0 : Int32)), .val (.int (1 : Int32)), .val (.long (if x5 < x4 then x5 else x4)), .second, .val (.int (1 : Int32))] [(.int (1 : Int32))])) _
      refine XS.istore X51.here hx rfl (hb hby at_298) rfl (l' := #[.val (.int x1), .val (.long x2), .second, .val (.long x3), .second, .val (.long x4), .second, .val (.long x5), .second, .val (.long x6), .second, .val (.ref b1), .val (.int (0 : Int32)), .val (.int (1 : Int32)), .val (.long (if x5 < x4 then x5 else x4)), .second, .val (.int (1 : Int32))]) rfl ?_
      show Steps p.tables e below (T51.setTop (mkF m 300 #[.val (.int x1), .val (.long x2), .second, .val (.long x3), .second, .val (.long x4), .second, .val (.long x5), .second, .val (.long x6), .second, .val (.ref b1), .val (.int (0 : Int32)), .val (.int (1 : Int32)), .val (.long (if x5 < x4 then x5 else x4)), .second, .val (.int (1 : Int32))] [])) _
      refine XS.iload X51.here hx rfl (hb hby at_300) rfl ?_
      show Steps p.tables e below (T51.setTop (mkF m 302 #[.val (.int x1), .val (.long x2), .second, .val (.long x3), .second, .val (.long x4), .second, .val (.long x5), .second, .val (.long x6), .second, .val (.ref b1), .val (.int (0 : Int32)), .val (.int (1 : Int32)), .val (.long (if x5 < x4 then x5 else x4)), .second, .val (.int (1 : Int32))] [(.int (1 : Int32))])) _
      refine XS.ifNo X51.here hx rfl (hb hby at_302) rfl ((if0 _ _).trans (feq (by decide : ¬ ((1 : Int32) = (0 : Int32)))).1) ?_
      show Steps p.tables e below (T51.setTop (mkF m 305 #[.val (.int x1), .val (.long x2), .second, .val (.long x3), .second, .val (.long x4), .second, .val (.long x5), .second, .val (.long x6), .second, .val (.ref b1), .val (.int (0 : Int32)), .val (.int (1 : Int32)), .val (.long (if x5 < x4 then x5 else x4)), .second, .val (.int (1 : Int32))] [])) _
      refine XS.aload X51.here hx rfl (hb hby at_305) rfl rfl ?_
      show Steps p.tables e below (T51.setTop (mkF m 307 #[.val (.int x1), .val (.long x2), .second, .val (.long x3), .second, .val (.long x4), .second, .val (.long x5), .second, .val (.long x6), .second, .val (.ref b1), .val (.int (0 : Int32)), .val (.int (1 : Int32)), .val (.long (if x5 < x4 then x5 else x4)), .second, .val (.int (1 : Int32))] [(.ref b1)])) _
      refine st53 _ ?_
      show Steps p.tables e below (T53.setTop (mkF m 310 #[.val (.int x1), .val (.long x2), .second, .val (.long x3), .second, .val (.long x4), .second, .val (.long x5), .second, .val (.long x6), .second, .val (.ref b1), .val (.int (0 : Int32)), .val (.int (1 : Int32)), .val (.long (if x5 < x4 then x5 else x4)), .second, .val (.int (1 : Int32))] [(.ref b5_3)])) _
      refine XS.iload X53.here hx rfl (hb hby at_310) rfl ?_
      show Steps p.tables e below (T53.setTop (mkF m 312 #[.val (.int x1), .val (.long x2), .second, .val (.long x3), .second, .val (.long x4), .second, .val (.long x5), .second, .val (.long x6), .second, .val (.ref b1), .val (.int (0 : Int32)), .val (.int (1 : Int32)), .val (.long (if x5 < x4 then x5 else x4)), .second, .val (.int (1 : Int32))] [(.int (0 : Int32)), (.ref b5_3)])) _
      refine X53.laload hx (j := (0 : Int32)) (v := (.long (x2 ^^^ (-1 : Int64)))) (by rw [e53]; exact Ar54.1) (State.isArrayOf_alike hZ.alike Ar54.2.1) Ar54.2.2 hin54 (H54.at hin54 rfl) (g := (mkF m 312 #[.val (.int x1), .val (.long x2), .second, .val (.long x3), .second, .val (.long x4), .second, .val (.long x5), .second, .val (.long x6), .second, .val (.ref b1), .val (.int (0 : Int32)), .val (.int (1 : Int32)), .val (.long (if x5 < x4 then x5 else x4)), .second, .val (.int (1 : Int32))] [(.int (0 : Int32)), (.ref b5_3)])) rfl rfl (hb hby at_312) _ ?_
      show Steps p.tables e below (T53.setTop (mkF m 313 #[.val (.int x1), .val (.long x2), .second, .val (.long x3), .second, .val (.long x4), .second, .val (.long x5), .second, .val (.long x6), .second, .val (.ref b1), .val (.int (0 : Int32)), .val (.int (1 : Int32)), .val (.long (if x5 < x4 then x5 else x4)), .second, .val (.int (1 : Int32))] [(.long (x2 ^^^ (-1 : Int64)))])) _
      refine XS.lloadN X53.here hx rfl (hb hby at_313) rfl ?_
      show Steps p.tables e below (T53.setTop (mkF m 314 #[.val (.int x1), .val (.long x2), .second, .val (.long x3), .second, .val (.long x4), .second, .val (.long x5), .second, .val (.long x6), .second, .val (.ref b1), .val (.int (0 : Int32)), .val (.int (1 : Int32)), .val (.long (if x5 < x4 then x5 else x4)), .second, .val (.int (1 : Int32))] [(.long x2), (.long (x2 ^^^ (-1 : Int64)))])) _
      refine X53.ldc2Long hx hown (mvT hZ (hw _ (List.mem_of_getElem? (i := 69) rfl))) (g := (mkF m 314 #[.val (.int x1), .val (.long x2), .second, .val (.long x3), .second, .val (.long x4), .second, .val (.long x5), .second, .val (.long x6), .second, .val (.ref b1), .val (.int (0 : Int32)), .val (.int (1 : Int32)), .val (.long (if x5 < x4 then x5 else x4)), .second, .val (.int (1 : Int32))] [(.long x2), (.long (x2 ^^^ (-1 : Int64)))])) rfl (hb hby at_314) _ ?_
      show Steps p.tables e below (T53.setTop (mkF m 317 #[.val (.int x1), .val (.long x2), .second, .val (.long x3), .second, .val (.long x4), .second, .val (.long x5), .second, .val (.long x6), .second, .val (.ref b1), .val (.int (0 : Int32)), .val (.int (1 : Int32)), .val (.long (if x5 < x4 then x5 else x4)), .second, .val (.int (1 : Int32))] [(.long (-1 : Int64)), (.long x2), (.long (x2 ^^^ (-1 : Int64)))])) _
      refine XS.lxor X53.here hx rfl (hb hby at_317) rfl ?_
      show Steps p.tables e below (T53.setTop (mkF m 318 #[.val (.int x1), .val (.long x2), .second, .val (.long x3), .second, .val (.long x4), .second, .val (.long x5), .second, .val (.long x6), .second, .val (.ref b1), .val (.int (0 : Int32)), .val (.int (1 : Int32)), .val (.long (if x5 < x4 then x5 else x4)), .second, .val (.int (1 : Int32))] [(.long (x2 ^^^ (-1 : Int64))), (.long (x2 ^^^ (-1 : Int64)))])) _
      refine XS.lcmp X53.here hx rfl (hb hby at_318) rfl ?_
      show Steps p.tables e below (T53.setTop (mkF m 319 #[.val (.int x1), .val (.long x2), .second, .val (.long x3), .second, .val (.long x4), .second, .val (.long x5), .second, .val (.long x6), .second, .val (.ref b1), .val (.int (0 : Int32)), .val (.int (1 : Int32)), .val (.long (if x5 < x4 then x5 else x4)), .second, .val (.int (1 : Int32))] [(.int (lcmpW (x2 ^^^ (-1 : Int64)) (x2 ^^^ (-1 : Int64))))])) _
      refine XS.ifNo X53.here hx rfl (hb hby at_319) rfl ((if0 _ _).trans (teq ((lw_eq _ _).mpr (rfl : (x2 ^^^ (-1 : Int64)) = (x2 ^^^ (-1 : Int64))))).2) ?_
      show Steps p.tables e below (T53.setTop (mkF m 322 #[.val (.int x1), .val (.long x2), .second, .val (.long x3), .second, .val (.long x4), .second, .val (.long x5), .second, .val (.long x6), .second, .val (.ref b1), .val (.int (0 : Int32)), .val (.int (1 : Int32)), .val (.long (if x5 < x4 then x5 else x4)), .second, .val (.int (1 : Int32))] [])) _
      refine XS.iconst X53.here hx rfl (hb hby at_322) ?_
      show Steps p.tables e below (T53.setTop (mkF m 323 #[.val (.int x1), .val (.long x2), .second, .val (.long x3), .second, .val (.long x4), .second, .val (.long x5), .second, .val (.long x6), .second, .val (.ref b1), .val (.int (0 : Int32)), .val (.int (1 : Int32)), .val (.long (if x5 < x4 then x5 else x4)), .second, .val (.int (1 : Int32))] [(.int (1 : Int32))])) _
      refine XS.goto X53.here hx rfl (pc0 := 323) (pc' := 327) rfl (hb hby at_323) (by decide) (by decide) ?_
      show Steps p.tables e below (T53.setTop (mkF m 327 #[.val (.int x1), .val (.long x2), .second, .val (.long x3), .second, .val (.long x4), .second, .val (.long x5), .second, .val (.long x6), .second, .val (.ref b1), .val (.int (0 : Int32)), .val (.int (1 : Int32)), .val (.long (if x5 < x4 then x5 else x4)), .second, .val (.int (1 : Int32))] [(.int (1 : Int32))])) _
      refine XS.istore X53.here hx rfl (hb hby at_327) rfl (l' := #[.val (.int x1), .val (.long x2), .second, .val (.long x3), .second, .val (.long x4), .second, .val (.long x5), .second, .val (.long x6), .second, .val (.ref b1), .val (.int (0 : Int32)), .val (.int (1 : Int32)), .val (.long (if x5 < x4 then x5 else x4)), .second, .val (.int (1 : Int32))]) rfl ?_
      show Steps p.tables e below (T53.setTop (mkF m 329 #[.val (.int x1), .val (.long x2), .second, .val (.long x3), .second, .val (.long x4), .second, .val (.long x5), .second, .val (.long x6), .second, .val (.ref b1), .val (.int (0 : Int32)), .val (.int (1 : Int32)), .val (.long (if x5 < x4 then x5 else x4)), .second, .val (.int (1 : Int32))] [])) _
      refine XS.iload X53.here hx rfl (hb hby at_329) rfl ?_
      show Steps p.tables e below (T53.setTop (mkF m 331 #[.val (.int x1), .val (.long x2), .second, .val (.long x3), .second, .val (.long x4), .second, .val (.long x5), .second, .val (.long x6), .second, .val (.ref b1), .val (.int (0 : Int32)), .val (.int (1 : Int32)), .val (.long (if x5 < x4 then x5 else x4)), .second, .val (.int (1 : Int32))] [(.int (1 : Int32))])) _
      refine XS.ifNo X53.here hx rfl (hb hby at_331) rfl ((if0 _ _).trans (feq (by decide : ¬ ((1 : Int32) = (0 : Int32)))).1) ?_
      show Steps p.tables e below (T53.setTop (mkF m 334 #[.val (.int x1), .val (.long x2), .second, .val (.long x3), .second, .val (.long x4), .second, .val (.long x5), .second, .val (.long x6), .second, .val (.ref b1), .val (.int (0 : Int32)), .val (.int (1 : Int32)), .val (.long (if x5 < x4 then x5 else x4)), .second, .val (.int (1 : Int32))] [])) _
      refine XS.aload X53.here hx rfl (hb hby at_334) rfl rfl ?_
      show Steps p.tables e below (T53.setTop (mkF m 336 #[.val (.int x1), .val (.long x2), .second, .val (.long x3), .second, .val (.long x4), .second, .val (.long x5), .second, .val (.long x6), .second, .val (.ref b1), .val (.int (0 : Int32)), .val (.int (1 : Int32)), .val (.long (if x5 < x4 then x5 else x4)), .second, .val (.int (1 : Int32))] [(.ref b1)])) _
      refine st55 _ ?_
      show Steps p.tables e below (T55.setTop (mkF m 339 #[.val (.int x1), .val (.long x2), .second, .val (.long x3), .second, .val (.long x4), .second, .val (.long x5), .second, .val (.long x6), .second, .val (.ref b1), .val (.int (0 : Int32)), .val (.int (1 : Int32)), .val (.long (if x5 < x4 then x5 else x4)), .second, .val (.int (1 : Int32))] [(.ref b5_0)])) _
      refine XS.iload X55.here hx rfl (hb hby at_339) rfl ?_
      show Steps p.tables e below (T55.setTop (mkF m 341 #[.val (.int x1), .val (.long x2), .second, .val (.long x3), .second, .val (.long x4), .second, .val (.long x5), .second, .val (.long x6), .second, .val (.ref b1), .val (.int (0 : Int32)), .val (.int (1 : Int32)), .val (.long (if x5 < x4 then x5 else x4)), .second, .val (.int (1 : Int32))] [(.int (1 : Int32)), (.ref b5_0)])) _
      refine X55.laload hx (j := (1 : Int32)) (v := (.long (0 : Int64))) (by rw [e55]; exact Ar56.1) (State.isArrayOf_alike hZ.alike Ar56.2.1) Ar56.2.2 hin56 (H56.at hin56 rfl) (g := (mkF m 341 #[.val (.int x1), .val (.long x2), .second, .val (.long x3), .second, .val (.long x4), .second, .val (.long x5), .second, .val (.long x6), .second, .val (.ref b1), .val (.int (0 : Int32)), .val (.int (1 : Int32)), .val (.long (if x5 < x4 then x5 else x4)), .second, .val (.int (1 : Int32))] [(.int (1 : Int32)), (.ref b5_0)])) rfl rfl (hb hby at_341) _ ?_
      show Steps p.tables e below (T55.setTop (mkF m 342 #[.val (.int x1), .val (.long x2), .second, .val (.long x3), .second, .val (.long x4), .second, .val (.long x5), .second, .val (.long x6), .second, .val (.ref b1), .val (.int (0 : Int32)), .val (.int (1 : Int32)), .val (.long (if x5 < x4 then x5 else x4)), .second, .val (.int (1 : Int32))] [(.long (0 : Int64))])) _
      refine XS.lconst X55.here hx rfl (hb hby at_342) ?_
      show Steps p.tables e below (T55.setTop (mkF m 343 #[.val (.int x1), .val (.long x2), .second, .val (.long x3), .second, .val (.long x4), .second, .val (.long x5), .second, .val (.long x6), .second, .val (.ref b1), .val (.int (0 : Int32)), .val (.int (1 : Int32)), .val (.long (if x5 < x4 then x5 else x4)), .second, .val (.int (1 : Int32))] [(.long (0 : Int64)), (.long (0 : Int64))])) _
      refine XS.lcmp X55.here hx rfl (hb hby at_343) rfl ?_
      show Steps p.tables e below (T55.setTop (mkF m 344 #[.val (.int x1), .val (.long x2), .second, .val (.long x3), .second, .val (.long x4), .second, .val (.long x5), .second, .val (.long x6), .second, .val (.ref b1), .val (.int (0 : Int32)), .val (.int (1 : Int32)), .val (.long (if x5 < x4 then x5 else x4)), .second, .val (.int (1 : Int32))] [(.int (lcmpW (0 : Int64) (0 : Int64)))])) _
      refine XS.ifNo X55.here hx rfl (hb hby at_344) rfl ((if0 _ _).trans (teq ((lw_eq _ _).mpr (by decide : (0 : Int64) = (0 : Int64)))).2) ?_
      show Steps p.tables e below (T55.setTop (mkF m 347 #[.val (.int x1), .val (.long x2), .second, .val (.long x3), .second, .val (.long x4), .second, .val (.long x5), .second, .val (.long x6), .second, .val (.ref b1), .val (.int (0 : Int32)), .val (.int (1 : Int32)), .val (.long (if x5 < x4 then x5 else x4)), .second, .val (.int (1 : Int32))] [])) _
      refine XS.iconst X55.here hx rfl (hb hby at_347) ?_
      show Steps p.tables e below (T55.setTop (mkF m 348 #[.val (.int x1), .val (.long x2), .second, .val (.long x3), .second, .val (.long x4), .second, .val (.long x5), .second, .val (.long x6), .second, .val (.ref b1), .val (.int (0 : Int32)), .val (.int (1 : Int32)), .val (.long (if x5 < x4 then x5 else x4)), .second, .val (.int (1 : Int32))] [(.int (1 : Int32))])) _
      refine XS.goto X55.here hx rfl (pc0 := 348) (pc' := 352) rfl (hb hby at_348) (by decide) (by decide) ?_
      show Steps p.tables e below (T55.setTop (mkF m 352 #[.val (.int x1), .val (.long x2), .second, .val (.long x3), .second, .val (.long x4), .second, .val (.long x5), .second, .val (.long x6), .second, .val (.ref b1), .val (.int (0 : Int32)), .val (.int (1 : Int32)), .val (.long (if x5 < x4 then x5 else x4)), .second, .val (.int (1 : Int32))] [(.int (1 : Int32))])) _
      refine XS.istore X55.here hx rfl (hb hby at_352) rfl (l' := #[.val (.int x1), .val (.long x2), .second, .val (.long x3), .second, .val (.long x4), .second, .val (.long x5), .second, .val (.long x6), .second, .val (.ref b1), .val (.int (0 : Int32)), .val (.int (1 : Int32)), .val (.long (if x5 < x4 then x5 else x4)), .second, .val (.int (1 : Int32))]) rfl ?_
      show Steps p.tables e below (T55.setTop (mkF m 354 #[.val (.int x1), .val (.long x2), .second, .val (.long x3), .second, .val (.long x4), .second, .val (.long x5), .second, .val (.long x6), .second, .val (.ref b1), .val (.int (0 : Int32)), .val (.int (1 : Int32)), .val (.long (if x5 < x4 then x5 else x4)), .second, .val (.int (1 : Int32))] [])) _
      refine XS.iload X55.here hx rfl (hb hby at_354) rfl ?_
      show Steps p.tables e below (T55.setTop (mkF m 356 #[.val (.int x1), .val (.long x2), .second, .val (.long x3), .second, .val (.long x4), .second, .val (.long x5), .second, .val (.long x6), .second, .val (.ref b1), .val (.int (0 : Int32)), .val (.int (1 : Int32)), .val (.long (if x5 < x4 then x5 else x4)), .second, .val (.int (1 : Int32))] [(.int (1 : Int32))])) _
      refine XS.ifNo X55.here hx rfl (hb hby at_356) rfl ((if0 _ _).trans (feq (by decide : ¬ ((1 : Int32) = (0 : Int32)))).1) ?_
      show Steps p.tables e below (T55.setTop (mkF m 359 #[.val (.int x1), .val (.long x2), .second, .val (.long x3), .second, .val (.long x4), .second, .val (.long x5), .second, .val (.long x6), .second, .val (.ref b1), .val (.int (0 : Int32)), .val (.int (1 : Int32)), .val (.long (if x5 < x4 then x5 else x4)), .second, .val (.int (1 : Int32))] [])) _
      refine XS.aload X55.here hx rfl (hb hby at_359) rfl rfl ?_
      show Steps p.tables e below (T55.setTop (mkF m 361 #[.val (.int x1), .val (.long x2), .second, .val (.long x3), .second, .val (.long x4), .second, .val (.long x5), .second, .val (.long x6), .second, .val (.ref b1), .val (.int (0 : Int32)), .val (.int (1 : Int32)), .val (.long (if x5 < x4 then x5 else x4)), .second, .val (.int (1 : Int32))] [(.ref b1)])) _
      refine st57 _ ?_
      show Steps p.tables e below (T57.setTop (mkF m 364 #[.val (.int x1), .val (.long x2), .second, .val (.long x3), .second, .val (.long x4), .second, .val (.long x5), .second, .val (.long x6), .second, .val (.ref b1), .val (.int (0 : Int32)), .val (.int (1 : Int32)), .val (.long (if x5 < x4 then x5 else x4)), .second, .val (.int (1 : Int32))] [(.ref b5_2)])) _
      refine XS.iload X57.here hx rfl (hb hby at_364) rfl ?_
      show Steps p.tables e below (T57.setTop (mkF m 366 #[.val (.int x1), .val (.long x2), .second, .val (.long x3), .second, .val (.long x4), .second, .val (.long x5), .second, .val (.long x6), .second, .val (.ref b1), .val (.int (0 : Int32)), .val (.int (1 : Int32)), .val (.long (if x5 < x4 then x5 else x4)), .second, .val (.int (1 : Int32))] [(.int (1 : Int32)), (.ref b5_2)])) _
      refine X57.laload hx (j := (1 : Int32)) (v := (.long (0 : Int64))) (by rw [e57]; exact Ar58.1) (State.isArrayOf_alike hZ.alike Ar58.2.1) Ar58.2.2 hin58 (H58.at hin58 rfl) (g := (mkF m 366 #[.val (.int x1), .val (.long x2), .second, .val (.long x3), .second, .val (.long x4), .second, .val (.long x5), .second, .val (.long x6), .second, .val (.ref b1), .val (.int (0 : Int32)), .val (.int (1 : Int32)), .val (.long (if x5 < x4 then x5 else x4)), .second, .val (.int (1 : Int32))] [(.int (1 : Int32)), (.ref b5_2)])) rfl rfl (hb hby at_366) _ ?_
      show Steps p.tables e below (T57.setTop (mkF m 367 #[.val (.int x1), .val (.long x2), .second, .val (.long x3), .second, .val (.long x4), .second, .val (.long x5), .second, .val (.long x6), .second, .val (.ref b1), .val (.int (0 : Int32)), .val (.int (1 : Int32)), .val (.long (if x5 < x4 then x5 else x4)), .second, .val (.int (1 : Int32))] [(.long (0 : Int64))])) _
      refine XS.lconst X57.here hx rfl (hb hby at_367) ?_
      show Steps p.tables e below (T57.setTop (mkF m 368 #[.val (.int x1), .val (.long x2), .second, .val (.long x3), .second, .val (.long x4), .second, .val (.long x5), .second, .val (.long x6), .second, .val (.ref b1), .val (.int (0 : Int32)), .val (.int (1 : Int32)), .val (.long (if x5 < x4 then x5 else x4)), .second, .val (.int (1 : Int32))] [(.long (0 : Int64)), (.long (0 : Int64))])) _
      refine XS.lcmp X57.here hx rfl (hb hby at_368) rfl ?_
      show Steps p.tables e below (T57.setTop (mkF m 369 #[.val (.int x1), .val (.long x2), .second, .val (.long x3), .second, .val (.long x4), .second, .val (.long x5), .second, .val (.long x6), .second, .val (.ref b1), .val (.int (0 : Int32)), .val (.int (1 : Int32)), .val (.long (if x5 < x4 then x5 else x4)), .second, .val (.int (1 : Int32))] [(.int (lcmpW (0 : Int64) (0 : Int64)))])) _
      refine XS.ifNo X57.here hx rfl (hb hby at_369) rfl ((if0 _ _).trans (teq ((lw_eq _ _).mpr (by decide : (0 : Int64) = (0 : Int64)))).2) ?_
      show Steps p.tables e below (T57.setTop (mkF m 372 #[.val (.int x1), .val (.long x2), .second, .val (.long x3), .second, .val (.long x4), .second, .val (.long x5), .second, .val (.long x6), .second, .val (.ref b1), .val (.int (0 : Int32)), .val (.int (1 : Int32)), .val (.long (if x5 < x4 then x5 else x4)), .second, .val (.int (1 : Int32))] [])) _
      refine XS.iconst X57.here hx rfl (hb hby at_372) ?_
      show Steps p.tables e below (T57.setTop (mkF m 373 #[.val (.int x1), .val (.long x2), .second, .val (.long x3), .second, .val (.long x4), .second, .val (.long x5), .second, .val (.long x6), .second, .val (.ref b1), .val (.int (0 : Int32)), .val (.int (1 : Int32)), .val (.long (if x5 < x4 then x5 else x4)), .second, .val (.int (1 : Int32))] [(.int (1 : Int32))])) _
      refine XS.goto X57.here hx rfl (pc0 := 373) (pc' := 377) rfl (hb hby at_373) (by decide) (by decide) ?_
      show Steps p.tables e below (T57.setTop (mkF m 377 #[.val (.int x1), .val (.long x2), .second, .val (.long x3), .second, .val (.long x4), .second, .val (.long x5), .second, .val (.long x6), .second, .val (.ref b1), .val (.int (0 : Int32)), .val (.int (1 : Int32)), .val (.long (if x5 < x4 then x5 else x4)), .second, .val (.int (1 : Int32))] [(.int (1 : Int32))])) _
      refine XS.istore X57.here hx rfl (hb hby at_377) rfl (l' := #[.val (.int x1), .val (.long x2), .second, .val (.long x3), .second, .val (.long x4), .second, .val (.long x5), .second, .val (.long x6), .second, .val (.ref b1), .val (.int (0 : Int32)), .val (.int (1 : Int32)), .val (.long (if x5 < x4 then x5 else x4)), .second, .val (.int (1 : Int32))]) rfl ?_
      show Steps p.tables e below (T57.setTop (mkF m 379 #[.val (.int x1), .val (.long x2), .second, .val (.long x3), .second, .val (.long x4), .second, .val (.long x5), .second, .val (.long x6), .second, .val (.ref b1), .val (.int (0 : Int32)), .val (.int (1 : Int32)), .val (.long (if x5 < x4 then x5 else x4)), .second, .val (.int (1 : Int32))] [])) _
      refine XS.iload X57.here hx rfl (hb hby at_379) rfl ?_
      show Steps p.tables e below (T57.setTop (mkF m 381 #[.val (.int x1), .val (.long x2), .second, .val (.long x3), .second, .val (.long x4), .second, .val (.long x5), .second, .val (.long x6), .second, .val (.ref b1), .val (.int (0 : Int32)), .val (.int (1 : Int32)), .val (.long (if x5 < x4 then x5 else x4)), .second, .val (.int (1 : Int32))] [(.int (1 : Int32))])) _
      refine XS.ifNo X57.here hx rfl (hb hby at_381) rfl ((if0 _ _).trans (feq (by decide : ¬ ((1 : Int32) = (0 : Int32)))).1) ?_
      show Steps p.tables e below (T57.setTop (mkF m 384 #[.val (.int x1), .val (.long x2), .second, .val (.long x3), .second, .val (.long x4), .second, .val (.long x5), .second, .val (.long x6), .second, .val (.ref b1), .val (.int (0 : Int32)), .val (.int (1 : Int32)), .val (.long (if x5 < x4 then x5 else x4)), .second, .val (.int (1 : Int32))] [])) _
      refine XS.aload X57.here hx rfl (hb hby at_384) rfl rfl ?_
      show Steps p.tables e below (T57.setTop (mkF m 386 #[.val (.int x1), .val (.long x2), .second, .val (.long x3), .second, .val (.long x4), .second, .val (.long x5), .second, .val (.long x6), .second, .val (.ref b1), .val (.int (0 : Int32)), .val (.int (1 : Int32)), .val (.long (if x5 < x4 then x5 else x4)), .second, .val (.int (1 : Int32))] [(.ref b1)])) _
      refine st59 _ ?_
      show Steps p.tables e below (T59.setTop (mkF m 389 #[.val (.int x1), .val (.long x2), .second, .val (.long x3), .second, .val (.long x4), .second, .val (.long x5), .second, .val (.long x6), .second, .val (.ref b1), .val (.int (0 : Int32)), .val (.int (1 : Int32)), .val (.long (if x5 < x4 then x5 else x4)), .second, .val (.int (1 : Int32))] [(.ref b5_3)])) _
      refine XS.iload X59.here hx rfl (hb hby at_389) rfl ?_
      show Steps p.tables e below (T59.setTop (mkF m 391 #[.val (.int x1), .val (.long x2), .second, .val (.long x3), .second, .val (.long x4), .second, .val (.long x5), .second, .val (.long x6), .second, .val (.ref b1), .val (.int (0 : Int32)), .val (.int (1 : Int32)), .val (.long (if x5 < x4 then x5 else x4)), .second, .val (.int (1 : Int32))] [(.int (1 : Int32)), (.ref b5_3)])) _
      refine X59.laload hx (j := (1 : Int32)) (v := (.long (9223372036854775807 : Int64))) (by rw [e59]; exact Ar60.1) (State.isArrayOf_alike hZ.alike Ar60.2.1) Ar60.2.2 hin60 (H60.at hin60 rfl) (g := (mkF m 391 #[.val (.int x1), .val (.long x2), .second, .val (.long x3), .second, .val (.long x4), .second, .val (.long x5), .second, .val (.long x6), .second, .val (.ref b1), .val (.int (0 : Int32)), .val (.int (1 : Int32)), .val (.long (if x5 < x4 then x5 else x4)), .second, .val (.int (1 : Int32))] [(.int (1 : Int32)), (.ref b5_3)])) rfl rfl (hb hby at_391) _ ?_
      show Steps p.tables e below (T59.setTop (mkF m 392 #[.val (.int x1), .val (.long x2), .second, .val (.long x3), .second, .val (.long x4), .second, .val (.long x5), .second, .val (.long x6), .second, .val (.ref b1), .val (.int (0 : Int32)), .val (.int (1 : Int32)), .val (.long (if x5 < x4 then x5 else x4)), .second, .val (.int (1 : Int32))] [(.long (9223372036854775807 : Int64))])) _
      refine X59.ldc2Long hx hown (mvT hZ (hw _ (List.mem_of_getElem? (i := 83) rfl))) (g := (mkF m 392 #[.val (.int x1), .val (.long x2), .second, .val (.long x3), .second, .val (.long x4), .second, .val (.long x5), .second, .val (.long x6), .second, .val (.ref b1), .val (.int (0 : Int32)), .val (.int (1 : Int32)), .val (.long (if x5 < x4 then x5 else x4)), .second, .val (.int (1 : Int32))] [(.long (9223372036854775807 : Int64))])) rfl (hb hby at_392) _ ?_
      show Steps p.tables e below (T59.setTop (mkF m 395 #[.val (.int x1), .val (.long x2), .second, .val (.long x3), .second, .val (.long x4), .second, .val (.long x5), .second, .val (.long x6), .second, .val (.ref b1), .val (.int (0 : Int32)), .val (.int (1 : Int32)), .val (.long (if x5 < x4 then x5 else x4)), .second, .val (.int (1 : Int32))] [(.long (9223372036854775807 : Int64)), (.long (9223372036854775807 : Int64))])) _
      refine XS.lcmp X59.here hx rfl (hb hby at_395) rfl ?_
      show Steps p.tables e below (T59.setTop (mkF m 396 #[.val (.int x1), .val (.long x2), .second, .val (.long x3), .second, .val (.long x4), .second, .val (.long x5), .second, .val (.long x6), .second, .val (.ref b1), .val (.int (0 : Int32)), .val (.int (1 : Int32)), .val (.long (if x5 < x4 then x5 else x4)), .second, .val (.int (1 : Int32))] [(.int (lcmpW (9223372036854775807 : Int64) (9223372036854775807 : Int64)))])) _
      refine XS.ifNo X59.here hx rfl (hb hby at_396) rfl ((if0 _ _).trans (teq ((lw_eq _ _).mpr (by decide : (9223372036854775807 : Int64) = (9223372036854775807 : Int64)))).2) ?_
      show Steps p.tables e below (T59.setTop (mkF m 399 #[.val (.int x1), .val (.long x2), .second, .val (.long x3), .second, .val (.long x4), .second, .val (.long x5), .second, .val (.long x6), .second, .val (.ref b1), .val (.int (0 : Int32)), .val (.int (1 : Int32)), .val (.long (if x5 < x4 then x5 else x4)), .second, .val (.int (1 : Int32))] [])) _
      refine XS.iconst X59.here hx rfl (hb hby at_399) ?_
      show Steps p.tables e below (T59.setTop (mkF m 400 #[.val (.int x1), .val (.long x2), .second, .val (.long x3), .second, .val (.long x4), .second, .val (.long x5), .second, .val (.long x6), .second, .val (.ref b1), .val (.int (0 : Int32)), .val (.int (1 : Int32)), .val (.long (if x5 < x4 then x5 else x4)), .second, .val (.int (1 : Int32))] [(.int (1 : Int32))])) _
      refine XS.goto X59.here hx rfl (pc0 := 400) (pc' := 404) rfl (hb hby at_400) (by decide) (by decide) ?_
      show Steps p.tables e below (T59.setTop (mkF m 404 #[.val (.int x1), .val (.long x2), .second, .val (.long x3), .second, .val (.long x4), .second, .val (.long x5), .second, .val (.long x6), .second, .val (.ref b1), .val (.int (0 : Int32)), .val (.int (1 : Int32)), .val (.long (if x5 < x4 then x5 else x4)), .second, .val (.int (1 : Int32))] [(.int (1 : Int32))])) _
      refine XS.istore X59.here hx rfl (hb hby at_404) rfl (l' := #[.val (.int x1), .val (.long x2), .second, .val (.long x3), .second, .val (.long x4), .second, .val (.long x5), .second, .val (.long x6), .second, .val (.ref b1), .val (.int (0 : Int32)), .val (.int (1 : Int32)), .val (.long (if x5 < x4 then x5 else x4)), .second, .val (.int (1 : Int32))]) rfl ?_
      show Steps p.tables e below (T59.setTop (mkF m 406 #[.val (.int x1), .val (.long x2), .second, .val (.long x3), .second, .val (.long x4), .second, .val (.long x5), .second, .val (.long x6), .second, .val (.ref b1), .val (.int (0 : Int32)), .val (.int (1 : Int32)), .val (.long (if x5 < x4 then x5 else x4)), .second, .val (.int (1 : Int32))] [])) _
      refine XS.iload X59.here hx rfl (hb hby at_406) rfl ?_
      show Steps p.tables e below (T59.setTop (mkF m 408 #[.val (.int x1), .val (.long x2), .second, .val (.long x3), .second, .val (.long x4), .second, .val (.long x5), .second, .val (.long x6), .second, .val (.ref b1), .val (.int (0 : Int32)), .val (.int (1 : Int32)), .val (.long (if x5 < x4 then x5 else x4)), .second, .val (.int (1 : Int32))] [(.int (1 : Int32))])) _
      refine XS.ifNo X59.here hx rfl (hb hby at_408) rfl ((if0 _ _).trans (feq (by decide : ¬ ((1 : Int32) = (0 : Int32)))).1) ?_
      show Steps p.tables e below (T59.setTop (mkF m 411 #[.val (.int x1), .val (.long x2), .second, .val (.long x3), .second, .val (.long x4), .second, .val (.long x5), .second, .val (.long x6), .second, .val (.ref b1), .val (.int (0 : Int32)), .val (.int (1 : Int32)), .val (.long (if x5 < x4 then x5 else x4)), .second, .val (.int (1 : Int32))] [])) _
      refine XS.aload X59.here hx rfl (hb hby at_411) rfl rfl ?_
      show Steps p.tables e below (T59.setTop (mkF m 413 #[.val (.int x1), .val (.long x2), .second, .val (.long x3), .second, .val (.long x4), .second, .val (.long x5), .second, .val (.long x6), .second, .val (.ref b1), .val (.int (0 : Int32)), .val (.int (1 : Int32)), .val (.long (if x5 < x4 then x5 else x4)), .second, .val (.int (1 : Int32))] [(.ref b1)])) _
      refine st61.trans ?_
      show Steps p.tables e below (T61.setTop (mkF m 416 #[.val (.int x1), .val (.long x2), .second, .val (.long x3), .second, .val (.long x4), .second, .val (.long x5), .second, .val (.long x6), .second, .val (.ref b1), .val (.int (0 : Int32)), .val (.int (1 : Int32)), .val (.long (if x5 < x4 then x5 else x4)), .second, .val (.int (1 : Int32))] [(.int (2 : Int32))])) _
      refine XS.iconst X61.here hx rfl (hb hby at_416) ?_
      show Steps p.tables e below (T61.setTop (mkF m 417 #[.val (.int x1), .val (.long x2), .second, .val (.long x3), .second, .val (.long x4), .second, .val (.long x5), .second, .val (.long x6), .second, .val (.ref b1), .val (.int (0 : Int32)), .val (.int (1 : Int32)), .val (.long (if x5 < x4 then x5 else x4)), .second, .val (.int (1 : Int32))] [(.int (2 : Int32)), (.int (2 : Int32))])) _
      refine XS.icmpNo X61.here hx rfl (hb hby at_417) rfl (teq (by decide : (2 : Int32) = (2 : Int32))).2 ?_
      show Steps p.tables e below (T61.setTop (mkF m 420 #[.val (.int x1), .val (.long x2), .second, .val (.long x3), .second, .val (.long x4), .second, .val (.long x5), .second, .val (.long x6), .second, .val (.ref b1), .val (.int (0 : Int32)), .val (.int (1 : Int32)), .val (.long (if x5 < x4 then x5 else x4)), .second, .val (.int (1 : Int32))] [])) _
      refine XS.iconst X61.here hx rfl (hb hby at_420) ?_
      show Steps p.tables e below (T61.setTop (mkF m 421 #[.val (.int x1), .val (.long x2), .second, .val (.long x3), .second, .val (.long x4), .second, .val (.long x5), .second, .val (.long x6), .second, .val (.ref b1), .val (.int (0 : Int32)), .val (.int (1 : Int32)), .val (.long (if x5 < x4 then x5 else x4)), .second, .val (.int (1 : Int32))] [(.int (1 : Int32))])) _
      refine XS.goto X61.here hx rfl (pc0 := 421) (pc' := 425) rfl (hb hby at_421) (by decide) (by decide) ?_
      show Steps p.tables e below (T61.setTop (mkF m 425 #[.val (.int x1), .val (.long x2), .second, .val (.long x3), .second, .val (.long x4), .second, .val (.long x5), .second, .val (.long x6), .second, .val (.ref b1), .val (.int (0 : Int32)), .val (.int (1 : Int32)), .val (.long (if x5 < x4 then x5 else x4)), .second, .val (.int (1 : Int32))] [(.int (1 : Int32))])) _
      refine XS.istore X61.here hx rfl (hb hby at_425) rfl (l' := #[.val (.int x1), .val (.long x2), .second, .val (.long x3), .second, .val (.long x4), .second, .val (.long x5), .second, .val (.long x6), .second, .val (.ref b1), .val (.int (0 : Int32)), .val (.int (1 : Int32)), .val (.long (if x5 < x4 then x5 else x4)), .second, .val (.int (1 : Int32))]) rfl ?_
      show Steps p.tables e below (T61.setTop (mkF m 427 #[.val (.int x1), .val (.long x2), .second, .val (.long x3), .second, .val (.long x4), .second, .val (.long x5), .second, .val (.long x6), .second, .val (.ref b1), .val (.int (0 : Int32)), .val (.int (1 : Int32)), .val (.long (if x5 < x4 then x5 else x4)), .second, .val (.int (1 : Int32))] [])) _
      refine XS.iload X61.here hx rfl (hb hby at_427) rfl ?_
      show Steps p.tables e below (T61.setTop (mkF m 429 #[.val (.int x1), .val (.long x2), .second, .val (.long x3), .second, .val (.long x4), .second, .val (.long x5), .second, .val (.long x6), .second, .val (.ref b1), .val (.int (0 : Int32)), .val (.int (1 : Int32)), .val (.long (if x5 < x4 then x5 else x4)), .second, .val (.int (1 : Int32))] [(.int (1 : Int32))])) _
      exact retN X61 hx (t := .boolean) Bd.returns (by simp) (hb hby at_429) hr
    · show own_Q_own_law Z x1 x2 x3 x4 x5 x6 h0 n0 _ T61.heap _
      rw [e61]
      exact ⟨rfl, N61⟩
  · skip
    have hc1 := (and_one x1).resolve_left hc8
    obtain ⟨T62, X62, e62, st62⟩ := getF X5 hx hZ hown (host := "") (Or.inl (hw _ (List.mem_of_getElem? (i := 67) rfl))) Via.refl rfl F5_1 (g := (mkF m 28 #[.val (.int x1), .val (.long x2), .second, .val (.long x3), .second, .val (.long x4), .second, .val (.long x5), .second, .val (.long x6), .second, .val (.ref b1), .val (.int (1 : Int32)), .val (.int (0 : Int32)), .unset, .unset, .unset] [(.ref b1)])) rfl rfl (hb hby at_28)
    obtain ⟨cl63, Ar63, q63, S63, M63, H63, G63⟩ := id V5_1
    have hin63 : ¬ ((1 : Int32) < 0 ∨ cl63.slots.size ≤ ((1 : Int32)).toNatClampNeg) := inb_of S63 ⟨by decide, by decide⟩
    obtain ⟨T64, h64, X64, e64, W64, st64⟩ := stJ X62 hx hZ e62 Ar63 (j := (1 : Int32)) hin63 (g := (mkF m 34 #[.val (.int x1), .val (.long x2), .second, .val (.long x3), .second, .val (.long x4), .second, .val (.long x5), .second, .val (.long x6), .second, .val (.ref b1), .val (.int (1 : Int32)), .val (.int (0 : Int32)), .unset, .unset, .unset] [(.long x2), (.int (1 : Int32)), (.ref b5_1)])) rfl rfl (hb hby at_34)
    have Ee5 := Ee5.wr W64
    have Fc5 := Fc5.other W64 (Or.inl ne_b1_b5_1)
    have F5_0 := F5_0.other W64 (Or.inl ne_b1_b5_1)
    have V5_0 := V5_0.other W64 m5_0_1
    have F5_1 := F5_1.other W64 (Or.inl ne_b1_b5_1)
    have F5_2 := F5_2.other W64 (Or.inl ne_b1_b5_1)
    have V5_2 := V5_2.other W64 (Ne.symm m5_1_2)
    have F5_3 := F5_3.other W64 (Or.inl ne_b1_b5_1)
    have V5_3 := V5_3.other W64 (Ne.symm m5_1_3)
    have F5_4 := F5_4.other W64 (Or.inl ne_b1_b5_1)
    have V5_4 := V5_4.other W64 (Ne.symm m5_1_4)
    have Z65 : n0 ≤ h64.size := Nat.le_trans Z6 (Keep.of_wr W64).1
    have V5_1 := Arv.set Ar63 q63 S63 M63 H63 G63 rfl W64 1 rfl (Nat.le_of_ble_eq_true rfl)
    have V5_1 : Arv Z h64 b5_1 j5_1 .long (2 : Int32) [(.long (0 : Int64)), (.long x2)] (.long (0 : Int64)) := V5_1
    have N64 := Fr.snoc X64 N5 g_b5_1
    obtain ⟨T66, X66, e66, st66⟩ := getF X64 hx hZ hown (host := "") (Or.inl (hw _ (List.mem_of_getElem? (i := 68) rfl))) Via.refl e64 F5_4 (g := (mkF m 37 #[.val (.int x1), .val (.long x2), .second, .val (.long x3), .second, .val (.long x4), .second, .val (.long x5), .second, .val (.long x6), .second, .val (.ref b1), .val (.int (1 : Int32)), .val (.int (0 : Int32)), .unset, .unset, .unset] [(.ref b1)])) rfl rfl (hb hby at_37)
    obtain ⟨cl67, Ar67, q67, S67, M67, H67, G67⟩ := id V5_4
    have hin67 : ¬ ((1 : Int32) < 0 ∨ cl67.slots.size ≤ ((1 : Int32)).toNatClampNeg) := inb_of S67 ⟨by decide, by decide⟩
    obtain ⟨T68, h68, X68, e68, W68, st68⟩ := stJ X66 hx hZ e66 Ar67 (j := (1 : Int32)) hin67 (g := (mkF m 44 #[.val (.int x1), .val (.long x2), .second, .val (.long x3), .second, .val (.long x4), .second, .val (.long x5), .second, .val (.long x6), .second, .val (.ref b1), .val (.int (1 : Int32)), .val (.int (0 : Int32)), .unset, .unset, .unset] [(.long x4), (.int (1 : Int32)), (.ref b5_4)])) rfl rfl (hb hby at_44)
    have Ee5 := Ee5.wr W68
    have Fc5 := Fc5.other W68 (Or.inl ne_b1_b5_4)
    have F5_0 := F5_0.other W68 (Or.inl ne_b1_b5_4)
    have V5_0 := V5_0.other W68 m5_0_4
    have F5_1 := F5_1.other W68 (Or.inl ne_b1_b5_4)
    have V5_1 := V5_1.other W68 m5_1_4
    have F5_2 := F5_2.other W68 (Or.inl ne_b1_b5_4)
    have V5_2 := V5_2.other W68 m5_2_4
    have F5_3 := F5_3.other W68 (Or.inl ne_b1_b5_4)
    have V5_3 := V5_3.other W68 m5_3_4
    have F5_4 := F5_4.other W68 (Or.inl ne_b1_b5_4)
    have Z69 : n0 ≤ h68.size := Nat.le_trans Z65 (Keep.of_wr W68).1
    have V5_4 := Arv.set Ar67 q67 S67 M67 H67 G67 rfl W68 1 rfl (Nat.le_of_ble_eq_true rfl)
    have V5_4 : Arv Z h68 b5_4 j5_4 .long (2 : Int32) [(.long (9223372036854775807 : Int64)), (.long x4)] (.long (0 : Int64)) := V5_4
    have N68 := Fr.snoc X68 N64 g_b5_4
    obtain ⟨T70, X70, e70, st70⟩ := getF X68 hx hZ hown (host := "") (Or.inl (hw _ (List.mem_of_getElem? (i := 67) rfl))) Via.refl e68 F5_1 (g := (mkF m 47 #[.val (.int x1), .val (.long x2), .second, .val (.long x3), .second, .val (.long x4), .second, .val (.long x5), .second, .val (.long x6), .second, .val (.ref b1), .val (.int (1 : Int32)), .val (.int (0 : Int32)), .unset, .unset, .unset] [(.ref b1)])) rfl rfl (hb hby at_47)
    obtain ⟨cl71, Ar71, q71, S71, M71, H71, G71⟩ := id V5_1
    have hin71 : ¬ ((0 : Int32) < 0 ∨ cl71.slots.size ≤ ((0 : Int32)).toNatClampNeg) := inb_of S71 ⟨by decide, by decide⟩
    obtain ⟨T72, h72, X72, e72, W72, st72⟩ := stJ X70 hx hZ e70 Ar71 (j := (0 : Int32)) hin71 (g := (mkF m 54 #[.val (.int x1), .val (.long x2), .second, .val (.long x3), .second, .val (.long x4), .second, .val (.long x5), .second, .val (.long x6), .second, .val (.ref b1), .val (.int (1 : Int32)), .val (.int (0 : Int32)), .unset, .unset, .unset] [(.long x6), (.int (0 : Int32)), (.ref b5_1)])) rfl rfl (hb hby at_54)
    have Ee5 := Ee5.wr W72
    have Fc5 := Fc5.other W72 (Or.inl ne_b1_b5_1)
    have F5_0 := F5_0.other W72 (Or.inl ne_b1_b5_1)
    have V5_0 := V5_0.other W72 m5_0_1
    have F5_1 := F5_1.other W72 (Or.inl ne_b1_b5_1)
    have F5_2 := F5_2.other W72 (Or.inl ne_b1_b5_1)
    have V5_2 := V5_2.other W72 (Ne.symm m5_1_2)
    have F5_3 := F5_3.other W72 (Or.inl ne_b1_b5_1)
    have V5_3 := V5_3.other W72 (Ne.symm m5_1_3)
    have F5_4 := F5_4.other W72 (Or.inl ne_b1_b5_1)
    have V5_4 := V5_4.other W72 (Ne.symm m5_1_4)
    have Z73 : n0 ≤ h72.size := Nat.le_trans Z69 (Keep.of_wr W72).1
    have V5_1 := Arv.set Ar71 q71 S71 M71 H71 G71 rfl W72 0 rfl (Nat.le_of_ble_eq_true rfl)
    have V5_1 : Arv Z h72 b5_1 j5_1 .long (2 : Int32) [(.long x6), (.long x2)] (.long (0 : Int64)) := V5_1
    have N72 := Fr.snoc X72 N68 g_b5_1
    obtain ⟨T74, X74, e74, st74⟩ := getF X72 hx hZ hown (host := "") (Or.inl (hw _ (List.mem_of_getElem? (i := 68) rfl))) Via.refl e72 F5_4 (g := (mkF m 57 #[.val (.int x1), .val (.long x2), .second, .val (.long x3), .second, .val (.long x4), .second, .val (.long x5), .second, .val (.long x6), .second, .val (.ref b1), .val (.int (1 : Int32)), .val (.int (0 : Int32)), .unset, .unset, .unset] [(.ref b1)])) rfl rfl (hb hby at_57)
    obtain ⟨cl75, Ar75, q75, S75, M75, H75, G75⟩ := id V5_4
    have hin75 : ¬ ((0 : Int32) < 0 ∨ cl75.slots.size ≤ ((0 : Int32)).toNatClampNeg) := inb_of S75 ⟨by decide, by decide⟩
    obtain ⟨T76, h76, X76, e76, W76, st76⟩ := stJ X74 hx hZ e74 Ar75 (j := (0 : Int32)) hin75 (g := (mkF m 68 #[.val (.int x1), .val (.long x2), .second, .val (.long x3), .second, .val (.long x4), .second, .val (.long x5), .second, .val (.long x6), .second, .val (.ref b1), .val (.int (1 : Int32)), .val (.int (0 : Int32)), .unset, .unset, .unset] [(.long (x6 ^^^ (-1 : Int64))), (.int (0 : Int32)), (.ref b5_4)])) rfl rfl (hb hby at_68)
    have Ee5 := Ee5.wr W76
    have Fc5 := Fc5.other W76 (Or.inl ne_b1_b5_4)
    have F5_0 := F5_0.other W76 (Or.inl ne_b1_b5_4)
    have V5_0 := V5_0.other W76 m5_0_4
    have F5_1 := F5_1.other W76 (Or.inl ne_b1_b5_4)
    have V5_1 := V5_1.other W76 m5_1_4
    have F5_2 := F5_2.other W76 (Or.inl ne_b1_b5_4)
    have V5_2 := V5_2.other W76 m5_2_4
    have F5_3 := F5_3.other W76 (Or.inl ne_b1_b5_4)
    have V5_3 := V5_3.other W76 m5_3_4
    have F5_4 := F5_4.other W76 (Or.inl ne_b1_b5_4)
    have Z77 : n0 ≤ h76.size := Nat.le_trans Z73 (Keep.of_wr W76).1
    have V5_4 := Arv.set Ar75 q75 S75 M75 H75 G75 rfl W76 0 rfl (Nat.le_of_ble_eq_true rfl)
    have V5_4 : Arv Z h76 b5_4 j5_4 .long (2 : Int32) [(.long (x6 ^^^ (-1 : Int64))), (.long x4)] (.long (0 : Int64)) := V5_4
    have N76 := Fr.snoc X76 N72 g_b5_4
    obtain ⟨T78, X78, e78, st78⟩ := getF X76 hx hZ hown (host := "") (Or.inl (hw _ (List.mem_of_getElem? (i := 70) rfl))) Via.refl e76 F5_0 (g := (mkF m 71 #[.val (.int x1), .val (.long x2), .second, .val (.long x3), .second, .val (.long x4), .second, .val (.long x5), .second, .val (.long x6), .second, .val (.ref b1), .val (.int (1 : Int32)), .val (.int (0 : Int32)), .unset, .unset, .unset] [(.ref b1)])) rfl rfl (hb hby at_71)
    obtain ⟨cl79, Ar79, q79, S79, M79, H79, G79⟩ := id V5_0
    have hin79 : ¬ ((1 : Int32) < 0 ∨ cl79.slots.size ≤ ((1 : Int32)).toNatClampNeg) := inb_of S79 ⟨by decide, by decide⟩
    obtain ⟨T80, h80, X80, e80, W80, st80⟩ := stJ X78 hx hZ e78 Ar79 (j := (1 : Int32)) hin79 (g := (mkF m 82 #[.val (.int x1), .val (.long x2), .second, .val (.long x3), .second, .val (.long x4), .second, .val (.long x5), .second, .val (.long x6), .second, .val (.ref b1), .val (.int (1 : Int32)), .val (.int (0 : Int32)), .unset, .unset, .unset] [(.long (x6 ^^^ (5 : Int64))), (.int (1 : Int32)), (.ref b5_0)])) rfl rfl (hb hby at_82)
    have Ee5 := Ee5.wr W80
    have Fc5 := Fc5.other W80 (Or.inl ne_b1_b5_0)
    have F5_0 := F5_0.other W80 (Or.inl ne_b1_b5_0)
    have F5_1 := F5_1.other W80 (Or.inl ne_b1_b5_0)
    have V5_1 := V5_1.other W80 (Ne.symm m5_0_1)
    have F5_2 := F5_2.other W80 (Or.inl ne_b1_b5_0)
    have V5_2 := V5_2.other W80 (Ne.symm m5_0_2)
    have F5_3 := F5_3.other W80 (Or.inl ne_b1_b5_0)
    have V5_3 := V5_3.other W80 (Ne.symm m5_0_3)
    have F5_4 := F5_4.other W80 (Or.inl ne_b1_b5_0)
    have V5_4 := V5_4.other W80 (Ne.symm m5_0_4)
    have Z81 : n0 ≤ h80.size := Nat.le_trans Z77 (Keep.of_wr W80).1
    have V5_0 := Arv.set Ar79 q79 S79 M79 H79 G79 rfl W80 1 rfl (Nat.le_of_ble_eq_true rfl)
    have V5_0 : Arv Z h80 b5_0 j5_0 .long (2 : Int32) [(.long (0 : Int64)), (.long (x6 ^^^ (5 : Int64)))] (.long (0 : Int64)) := V5_0
    have N80 := Fr.snoc X80 N76 g_b5_0
    obtain ⟨T82, X82, e82, st82⟩ := getF X80 hx hZ hown (host := "") (Or.inl (hw _ (List.mem_of_getElem? (i := 72) rfl))) Via.refl e80 F5_2 (g := (mkF m 85 #[.val (.int x1), .val (.long x2), .second, .val (.long x3), .second, .val (.long x4), .second, .val (.long x5), .second, .val (.long x6), .second, .val (.ref b1), .val (.int (1 : Int32)), .val (.int (0 : Int32)), .unset, .unset, .unset] [(.ref b1)])) rfl rfl (hb hby at_85)
    obtain ⟨cl83, Ar83, q83, S83, M83, H83, G83⟩ := id V5_2
    have hin83 : ¬ ((1 : Int32) < 0 ∨ cl83.slots.size ≤ ((1 : Int32)).toNatClampNeg) := inb_of S83 ⟨by decide, by decide⟩
    obtain ⟨T84, h84, X84, e84, W84, st84⟩ := stJ X82 hx hZ e82 Ar83 (j := (1 : Int32)) hin83 (g := (mkF m 96 #[.val (.int x1), .val (.long x2), .second, .val (.long x3), .second, .val (.long x4), .second, .val (.long x5), .second, .val (.long x6), .second, .val (.ref b1), .val (.int (1 : Int32)), .val (.int (0 : Int32)), .unset, .unset, .unset] [(.long (x6 ^^^ (9 : Int64))), (.int (1 : Int32)), (.ref b5_2)])) rfl rfl (hb hby at_96)
    have Ee5 := Ee5.wr W84
    have Fc5 := Fc5.other W84 (Or.inl ne_b1_b5_2)
    have F5_0 := F5_0.other W84 (Or.inl ne_b1_b5_2)
    have V5_0 := V5_0.other W84 m5_0_2
    have F5_1 := F5_1.other W84 (Or.inl ne_b1_b5_2)
    have V5_1 := V5_1.other W84 m5_1_2
    have F5_2 := F5_2.other W84 (Or.inl ne_b1_b5_2)
    have F5_3 := F5_3.other W84 (Or.inl ne_b1_b5_2)
    have V5_3 := V5_3.other W84 (Ne.symm m5_2_3)
    have F5_4 := F5_4.other W84 (Or.inl ne_b1_b5_2)
    have V5_4 := V5_4.other W84 (Ne.symm m5_2_4)
    have Z85 : n0 ≤ h84.size := Nat.le_trans Z81 (Keep.of_wr W84).1
    have V5_2 := Arv.set Ar83 q83 S83 M83 H83 G83 rfl W84 1 rfl (Nat.le_of_ble_eq_true rfl)
    have V5_2 : Arv Z h84 b5_2 j5_2 .long (2 : Int32) [(.long (0 : Int64)), (.long (x6 ^^^ (9 : Int64)))] (.long (0 : Int64)) := V5_2
    have N84 := Fr.snoc X84 N80 g_b5_2
    obtain ⟨T86, X86, e86, st86⟩ := getF X84 hx hZ hown (host := "") (Or.inl (hw _ (List.mem_of_getElem? (i := 74) rfl))) Via.refl e84 F5_3 (g := (mkF m 99 #[.val (.int x1), .val (.long x2), .second, .val (.long x3), .second, .val (.long x4), .second, .val (.long x5), .second, .val (.long x6), .second, .val (.ref b1), .val (.int (1 : Int32)), .val (.int (0 : Int32)), .unset, .unset, .unset] [(.ref b1)])) rfl rfl (hb hby at_99)
    obtain ⟨cl87, Ar87, q87, S87, M87, H87, G87⟩ := id V5_3
    have hin87 : ¬ ((1 : Int32) < 0 ∨ cl87.slots.size ≤ ((1 : Int32)).toNatClampNeg) := inb_of S87 ⟨by decide, by decide⟩
    obtain ⟨T88, h88, X88, e88, W88, st88⟩ := stJ X86 hx hZ e86 Ar87 (j := (1 : Int32)) hin87 (g := (mkF m 109 #[.val (.int x1), .val (.long x2), .second, .val (.long x3), .second, .val (.long x4), .second, .val (.long x5), .second, .val (.long x6), .second, .val (.ref b1), .val (.int (1 : Int32)), .val (.int (0 : Int32)), .unset, .unset, .unset] [(.long (x2 ^^^ (-1 : Int64))), (.int (1 : Int32)), (.ref b5_3)])) rfl rfl (hb hby at_109)
    have Ee5 := Ee5.wr W88
    have Fc5 := Fc5.other W88 (Or.inl ne_b1_b5_3)
    have F5_0 := F5_0.other W88 (Or.inl ne_b1_b5_3)
    have V5_0 := V5_0.other W88 m5_0_3
    have F5_1 := F5_1.other W88 (Or.inl ne_b1_b5_3)
    have V5_1 := V5_1.other W88 m5_1_3
    have F5_2 := F5_2.other W88 (Or.inl ne_b1_b5_3)
    have V5_2 := V5_2.other W88 m5_2_3
    have F5_3 := F5_3.other W88 (Or.inl ne_b1_b5_3)
    have F5_4 := F5_4.other W88 (Or.inl ne_b1_b5_3)
    have V5_4 := V5_4.other W88 (Ne.symm m5_3_4)
    have Z89 : n0 ≤ h88.size := Nat.le_trans Z85 (Keep.of_wr W88).1
    have V5_3 := Arv.set Ar87 q87 S87 M87 H87 G87 rfl W88 1 rfl (Nat.le_of_ble_eq_true rfl)
    have V5_3 : Arv Z h88 b5_3 j5_3 .long (2 : Int32) [(.long (9223372036854775807 : Int64)), (.long (x2 ^^^ (-1 : Int64)))] (.long (0 : Int64)) := V5_3
    have N88 := Fr.snoc X88 N84 g_b5_3
    obtain ⟨cq90, kq90, q90a, q90b, q90c⟩ := isOf hZ e88 Ee5
    obtain ⟨_, _, ⟨T90, L90, k90, n90⟩, -, X90, ⟨Lc90, hQ90, l90, y90, z90⟩, st90⟩ := X88.virtualBack hx (y := (⟨"com/example/synclattice/synclattice/sync/StatePairs", "addNegatives", "(IJJ)V"⟩ : MethodName)) (z := (⟨"com/example/synclattice/synclattice/sync/StatePairs", "addNegatives", "(IJJ)V"⟩ : MethodName)) hown (mvT hZ (hw _ (List.mem_of_getElem? (i := 75) rfl))) (mvT hZ (hw _ (List.mem_of_getElem? (i := 76) rfl))) (notFace_of_selects (args := #[]) (mvT hZ (hw _ (List.mem_of_getElem? (i := 78) rfl)))) (mvT hZ (hw _ (List.mem_of_getElem? (i := 78) rfl))) (mvT hZ (hw _ (List.mem_of_getElem? (i := 77) rfl))) (by decide) (backOf (W := 0) (own_addN1 l Z a0 hw [] b1 x3 x5 b5_1 b5_4 j5_1 j5_4 x6 x2 (x6 ^^^ (-1 : Int64)) x4 h88 n0 Z89 F5_1 F5_4 V5_1 V5_4 m5_1_4 ne_b1_b5_1 ne_b1_b5_4 g_b5_1 g_b5_4) hZ (hw _ (List.mem_of_getElem? (i := 79) rfl)) (hw _ (List.mem_of_getElem? (i := 2) rfl)) (by decide) (by decide)) q90a q90c (g := (mkF m 117 #[.val (.int x1), .val (.long x2), .second, .val (.long x3), .second, .val (.long x4), .second, .val (.long x5), .second, .val (.long x6), .second, .val (.ref b1), .val (.int (1 : Int32)), .val (.int (0 : Int32)), .unset, .unset, .unset] [(.long x5), (.long x3), (.int (1 : Int32)), (.ref b1)])) rfl (by rw [hml]; rfl) (Steps.refl _) (argsL := [(.int (1 : Int32)), (.long x3), (.long x5)]) (rest := []) (lenOf own_pd6 rfl) rfl (by show 2 * 0 + _ ≤ _; exact Nat.le_of_eq rfl) (hb hby at_117) (fun _ _ => ⟨rfl, e88, (by decide : 19 + 0 ≤ _), (by decide : 60 + 0 ≤ _)⟩)
    dsimp only [Pt.U, Pt.locs, Pt.cells, Pt.slots] at X90 l90 y90 z90 st90 hQ90
    subst l90 y90 z90
    obtain ⟨rfl, N90q, K90, Vn90, Vf90⟩ := hQ90
    have N90 := Fr.app N88 N90q
    have Ee5 := Ee5.keep K90
    have Fc5 := Fc5.keep K90 (ninS ne_b1_b5_1 (ninS ne_b1_b5_4 nin0))
    have F5_0 := F5_0.keep K90 (ninS ne_b1_b5_1 (ninS ne_b1_b5_4 nin0))
    have V5_0 := V5_0.keep K90 (ninS m5_0_1 (ninS m5_0_4 nin0))
    have F5_1 := F5_1.keep K90 (ninS ne_b1_b5_1 (ninS ne_b1_b5_4 nin0))
    have F5_2 := F5_2.keep K90 (ninS ne_b1_b5_1 (ninS ne_b1_b5_4 nin0))
    have V5_2 := V5_2.keep K90 (ninS (Ne.symm m5_1_2) (ninS m5_2_4 nin0))
    have F5_3 := F5_3.keep K90 (ninS ne_b1_b5_1 (ninS ne_b1_b5_4 nin0))
    have V5_3 := V5_3.keep K90 (ninS (Ne.symm m5_1_3) (ninS m5_3_4 nin0))
    have F5_4 := F5_4.keep K90 (ninS ne_b1_b5_1 (ninS ne_b1_b5_4 nin0))
    have Z91 := Nat.le_trans Z89 K90.1
    have pre93 : ∀ t, Steps p.tables e below (T90.setTop (mkF m 136 #[.val (.int x1), .val (.long x2), .second, .val (.long x3), .second, .val (.long x4), .second, .val (.long x5), .second, .val (.long x6), .second, .val (.ref b1), .val (.int (1 : Int32)), .val (.int (0 : Int32)), .val (.long (if x5 < x4 then x5 else x4)), .second, .unset] [])) t → Steps p.tables e below (s₁.setTop (entryFrame m #[(.int x1), (.long x2), (.long x3), (.long x4), (.long x5), (.long x6)] maxLocals)) t := fun t k => pre7 t (by
      show Steps p.tables e below (T5.setTop (mkF m 18 #[.val (.int x1), .val (.long x2), .second, .val (.long x3), .second, .val (.long x4), .second, .val (.long x5), .second, .val (.long x6), .second, .val (.ref b1), .unset, .unset, .unset, .unset, .unset] [(.int (x1 &&& (1 : Int32)))])) _
      rw [hc1]
      show Steps p.tables e below (T5.setTop (mkF m 18 #[.val (.int x1), .val (.long x2), .second, .val (.long x3), .second, .val (.long x4), .second, .val (.long x5), .second, .val (.long x6), .second, .val (.ref b1), .unset, .unset, .unset, .unset, .unset] [(.int (1 : Int32))])) _
      refine XS.istore X5.here hx rfl (hb hby at_18) rfl (l' := #[.val (.int x1), .val (.long x2), .second, .val (.long x3), .second, .val (.long x4), .second, .val (.long x5), .second, .val (.long x6), .second, .val (.ref b1), .val (.int (1 : Int32)), .unset, .unset, .unset, .unset]) rfl ?_
      show Steps p.tables e below (T5.setTop (mkF m 20 #[.val (.int x1), .val (.long x2), .second, .val (.long x3), .second, .val (.long x4), .second, .val (.long x5), .second, .val (.long x6), .second, .val (.ref b1), .val (.int (1 : Int32)), .unset, .unset, .unset, .unset] [])) _
      refine XS.iconst X5.here hx rfl (hb hby at_20) ?_
      show Steps p.tables e below (T5.setTop (mkF m 21 #[.val (.int x1), .val (.long x2), .second, .val (.long x3), .second, .val (.long x4), .second, .val (.long x5), .second, .val (.long x6), .second, .val (.ref b1), .val (.int (1 : Int32)), .unset, .unset, .unset, .unset] [(.int (1 : Int32))])) _
      refine XS.iload X5.here hx rfl (hb hby at_21) rfl ?_
      show Steps p.tables e below (T5.setTop (mkF m 23 #[.val (.int x1), .val (.long x2), .second, .val (.long x3), .second, .val (.long x4), .second, .val (.long x5), .second, .val (.long x6), .second, .val (.ref b1), .val (.int (1 : Int32)), .unset, .unset, .unset, .unset] [(.int (1 : Int32)), (.int (1 : Int32))])) _
      refine XS.isub X5.here hx rfl (hb hby at_23) rfl ?_
      show Steps p.tables e below (T5.setTop (mkF m 24 #[.val (.int x1), .val (.long x2), .second, .val (.long x3), .second, .val (.long x4), .second, .val (.long x5), .second, .val (.long x6), .second, .val (.ref b1), .val (.int (1 : Int32)), .unset, .unset, .unset, .unset] [(.int (0 : Int32))])) _
      refine XS.istore X5.here hx rfl (hb hby at_24) rfl (l' := #[.val (.int x1), .val (.long x2), .second, .val (.long x3), .second, .val (.long x4), .second, .val (.long x5), .second, .val (.long x6), .second, .val (.ref b1), .val (.int (1 : Int32)), .val (.int (0 : Int32)), .unset, .unset, .unset]) rfl ?_
      show Steps p.tables e below (T5.setTop (mkF m 26 #[.val (.int x1), .val (.long x2), .second, .val (.long x3), .second, .val (.long x4), .second, .val (.long x5), .second, .val (.long x6), .second, .val (.ref b1), .val (.int (1 : Int32)), .val (.int (0 : Int32)), .unset, .unset, .unset] [])) _
      refine XS.aload X5.here hx rfl (hb hby at_26) rfl rfl ?_
      show Steps p.tables e below (T5.setTop (mkF m 28 #[.val (.int x1), .val (.long x2), .second, .val (.long x3), .second, .val (.long x4), .second, .val (.long x5), .second, .val (.long x6), .second, .val (.ref b1), .val (.int (1 : Int32)), .val (.int (0 : Int32)), .unset, .unset, .unset] [(.ref b1)])) _
      refine st62 _ ?_
      show Steps p.tables e below (T62.setTop (mkF m 31 #[.val (.int x1), .val (.long x2), .second, .val (.long x3), .second, .val (.long x4), .second, .val (.long x5), .second, .val (.long x6), .second, .val (.ref b1), .val (.int (1 : Int32)), .val (.int (0 : Int32)), .unset, .unset, .unset] [(.ref b5_1)])) _
      refine XS.iload X62.here hx rfl (hb hby at_31) rfl ?_
      show Steps p.tables e below (T62.setTop (mkF m 33 #[.val (.int x1), .val (.long x2), .second, .val (.long x3), .second, .val (.long x4), .second, .val (.long x5), .second, .val (.long x6), .second, .val (.ref b1), .val (.int (1 : Int32)), .val (.int (0 : Int32)), .unset, .unset, .unset] [(.int (1 : Int32)), (.ref b5_1)])) _
      refine XS.lloadN X62.here hx rfl (hb hby at_33) rfl ?_
      show Steps p.tables e below (T62.setTop (mkF m 34 #[.val (.int x1), .val (.long x2), .second, .val (.long x3), .second, .val (.long x4), .second, .val (.long x5), .second, .val (.long x6), .second, .val (.ref b1), .val (.int (1 : Int32)), .val (.int (0 : Int32)), .unset, .unset, .unset] [(.long x2), (.int (1 : Int32)), (.ref b5_1)])) _
      refine st64 _ ?_
      show Steps p.tables e below (T64.setTop (mkF m 35 #[.val (.int x1), .val (.long x2), .second, .val (.long x3), .second, .val (.long x4), .second, .val (.long x5), .second, .val (.long x6), .second, .val (.ref b1), .val (.int (1 : Int32)), .val (.int (0 : Int32)), .unset, .unset, .unset] [])) _
      refine XS.aload X64.here hx rfl (hb hby at_35) rfl rfl ?_
      show Steps p.tables e below (T64.setTop (mkF m 37 #[.val (.int x1), .val (.long x2), .second, .val (.long x3), .second, .val (.long x4), .second, .val (.long x5), .second, .val (.long x6), .second, .val (.ref b1), .val (.int (1 : Int32)), .val (.int (0 : Int32)), .unset, .unset, .unset] [(.ref b1)])) _
      refine st66 _ ?_
      show Steps p.tables e below (T66.setTop (mkF m 40 #[.val (.int x1), .val (.long x2), .second, .val (.long x3), .second, .val (.long x4), .second, .val (.long x5), .second, .val (.long x6), .second, .val (.ref b1), .val (.int (1 : Int32)), .val (.int (0 : Int32)), .unset, .unset, .unset] [(.ref b5_4)])) _
      refine XS.iload X66.here hx rfl (hb hby at_40) rfl ?_
      show Steps p.tables e below (T66.setTop (mkF m 42 #[.val (.int x1), .val (.long x2), .second, .val (.long x3), .second, .val (.long x4), .second, .val (.long x5), .second, .val (.long x6), .second, .val (.ref b1), .val (.int (1 : Int32)), .val (.int (0 : Int32)), .unset, .unset, .unset] [(.int (1 : Int32)), (.ref b5_4)])) _
      refine XS.lload X66.here hx rfl (hb hby at_42) rfl ?_
      show Steps p.tables e below (T66.setTop (mkF m 44 #[.val (.int x1), .val (.long x2), .second, .val (.long x3), .second, .val (.long x4), .second, .val (.long x5), .second, .val (.long x6), .second, .val (.ref b1), .val (.int (1 : Int32)), .val (.int (0 : Int32)), .unset, .unset, .unset] [(.long x4), (.int (1 : Int32)), (.ref b5_4)])) _
      refine st68 _ ?_
      show Steps p.tables e below (T68.setTop (mkF m 45 #[.val (.int x1), .val (.long x2), .second, .val (.long x3), .second, .val (.long x4), .second, .val (.long x5), .second, .val (.long x6), .second, .val (.ref b1), .val (.int (1 : Int32)), .val (.int (0 : Int32)), .unset, .unset, .unset] [])) _
      refine XS.aload X68.here hx rfl (hb hby at_45) rfl rfl ?_
      show Steps p.tables e below (T68.setTop (mkF m 47 #[.val (.int x1), .val (.long x2), .second, .val (.long x3), .second, .val (.long x4), .second, .val (.long x5), .second, .val (.long x6), .second, .val (.ref b1), .val (.int (1 : Int32)), .val (.int (0 : Int32)), .unset, .unset, .unset] [(.ref b1)])) _
      refine st70 _ ?_
      show Steps p.tables e below (T70.setTop (mkF m 50 #[.val (.int x1), .val (.long x2), .second, .val (.long x3), .second, .val (.long x4), .second, .val (.long x5), .second, .val (.long x6), .second, .val (.ref b1), .val (.int (1 : Int32)), .val (.int (0 : Int32)), .unset, .unset, .unset] [(.ref b5_1)])) _
      refine XS.iload X70.here hx rfl (hb hby at_50) rfl ?_
      show Steps p.tables e below (T70.setTop (mkF m 52 #[.val (.int x1), .val (.long x2), .second, .val (.long x3), .second, .val (.long x4), .second, .val (.long x5), .second, .val (.long x6), .second, .val (.ref b1), .val (.int (1 : Int32)), .val (.int (0 : Int32)), .unset, .unset, .unset] [(.int (0 : Int32)), (.ref b5_1)])) _
      refine XS.lload X70.here hx rfl (hb hby at_52) rfl ?_
      show Steps p.tables e below (T70.setTop (mkF m 54 #[.val (.int x1), .val (.long x2), .second, .val (.long x3), .second, .val (.long x4), .second, .val (.long x5), .second, .val (.long x6), .second, .val (.ref b1), .val (.int (1 : Int32)), .val (.int (0 : Int32)), .unset, .unset, .unset] [(.long x6), (.int (0 : Int32)), (.ref b5_1)])) _
      refine st72 _ ?_
      show Steps p.tables e below (T72.setTop (mkF m 55 #[.val (.int x1), .val (.long x2), .second, .val (.long x3), .second, .val (.long x4), .second, .val (.long x5), .second, .val (.long x6), .second, .val (.ref b1), .val (.int (1 : Int32)), .val (.int (0 : Int32)), .unset, .unset, .unset] [])) _
      refine XS.aload X72.here hx rfl (hb hby at_55) rfl rfl ?_
      show Steps p.tables e below (T72.setTop (mkF m 57 #[.val (.int x1), .val (.long x2), .second, .val (.long x3), .second, .val (.long x4), .second, .val (.long x5), .second, .val (.long x6), .second, .val (.ref b1), .val (.int (1 : Int32)), .val (.int (0 : Int32)), .unset, .unset, .unset] [(.ref b1)])) _
      refine st74 _ ?_
      show Steps p.tables e below (T74.setTop (mkF m 60 #[.val (.int x1), .val (.long x2), .second, .val (.long x3), .second, .val (.long x4), .second, .val (.long x5), .second, .val (.long x6), .second, .val (.ref b1), .val (.int (1 : Int32)), .val (.int (0 : Int32)), .unset, .unset, .unset] [(.ref b5_4)])) _
      refine XS.iload X74.here hx rfl (hb hby at_60) rfl ?_
      show Steps p.tables e below (T74.setTop (mkF m 62 #[.val (.int x1), .val (.long x2), .second, .val (.long x3), .second, .val (.long x4), .second, .val (.long x5), .second, .val (.long x6), .second, .val (.ref b1), .val (.int (1 : Int32)), .val (.int (0 : Int32)), .unset, .unset, .unset] [(.int (0 : Int32)), (.ref b5_4)])) _
      refine XS.lload X74.here hx rfl (hb hby at_62) rfl ?_
      show Steps p.tables e below (T74.setTop (mkF m 64 #[.val (.int x1), .val (.long x2), .second, .val (.long x3), .second, .val (.long x4), .second, .val (.long x5), .second, .val (.long x6), .second, .val (.ref b1), .val (.int (1 : Int32)), .val (.int (0 : Int32)), .unset, .unset, .unset] [(.long x6), (.int (0 : Int32)), (.ref b5_4)])) _
      refine X74.ldc2Long hx hown (mvT hZ (hw _ (List.mem_of_getElem? (i := 69) rfl))) (g := (mkF m 64 #[.val (.int x1), .val (.long x2), .second, .val (.long x3), .second, .val (.long x4), .second, .val (.long x5), .second, .val (.long x6), .second, .val (.ref b1), .val (.int (1 : Int32)), .val (.int (0 : Int32)), .unset, .unset, .unset] [(.long x6), (.int (0 : Int32)), (.ref b5_4)])) rfl (hb hby at_64) _ ?_
      show Steps p.tables e below (T74.setTop (mkF m 67 #[.val (.int x1), .val (.long x2), .second, .val (.long x3), .second, .val (.long x4), .second, .val (.long x5), .second, .val (.long x6), .second, .val (.ref b1), .val (.int (1 : Int32)), .val (.int (0 : Int32)), .unset, .unset, .unset] [(.long (-1 : Int64)), (.long x6), (.int (0 : Int32)), (.ref b5_4)])) _
      refine XS.lxor X74.here hx rfl (hb hby at_67) rfl ?_
      show Steps p.tables e below (T74.setTop (mkF m 68 #[.val (.int x1), .val (.long x2), .second, .val (.long x3), .second, .val (.long x4), .second, .val (.long x5), .second, .val (.long x6), .second, .val (.ref b1), .val (.int (1 : Int32)), .val (.int (0 : Int32)), .unset, .unset, .unset] [(.long (x6 ^^^ (-1 : Int64))), (.int (0 : Int32)), (.ref b5_4)])) _
      refine st76 _ ?_
      show Steps p.tables e below (T76.setTop (mkF m 69 #[.val (.int x1), .val (.long x2), .second, .val (.long x3), .second, .val (.long x4), .second, .val (.long x5), .second, .val (.long x6), .second, .val (.ref b1), .val (.int (1 : Int32)), .val (.int (0 : Int32)), .unset, .unset, .unset] [])) _
      refine XS.aload X76.here hx rfl (hb hby at_69) rfl rfl ?_
      show Steps p.tables e below (T76.setTop (mkF m 71 #[.val (.int x1), .val (.long x2), .second, .val (.long x3), .second, .val (.long x4), .second, .val (.long x5), .second, .val (.long x6), .second, .val (.ref b1), .val (.int (1 : Int32)), .val (.int (0 : Int32)), .unset, .unset, .unset] [(.ref b1)])) _
      refine st78 _ ?_
      show Steps p.tables e below (T78.setTop (mkF m 74 #[.val (.int x1), .val (.long x2), .second, .val (.long x3), .second, .val (.long x4), .second, .val (.long x5), .second, .val (.long x6), .second, .val (.ref b1), .val (.int (1 : Int32)), .val (.int (0 : Int32)), .unset, .unset, .unset] [(.ref b5_0)])) _
      refine XS.iload X78.here hx rfl (hb hby at_74) rfl ?_
      show Steps p.tables e below (T78.setTop (mkF m 76 #[.val (.int x1), .val (.long x2), .second, .val (.long x3), .second, .val (.long x4), .second, .val (.long x5), .second, .val (.long x6), .second, .val (.ref b1), .val (.int (1 : Int32)), .val (.int (0 : Int32)), .unset, .unset, .unset] [(.int (1 : Int32)), (.ref b5_0)])) _
      refine XS.lload X78.here hx rfl (hb hby at_76) rfl ?_
      show Steps p.tables e below (T78.setTop (mkF m 78 #[.val (.int x1), .val (.long x2), .second, .val (.long x3), .second, .val (.long x4), .second, .val (.long x5), .second, .val (.long x6), .second, .val (.ref b1), .val (.int (1 : Int32)), .val (.int (0 : Int32)), .unset, .unset, .unset] [(.long x6), (.int (1 : Int32)), (.ref b5_0)])) _
      refine X78.ldc2Long hx hown (mvT hZ (hw _ (List.mem_of_getElem? (i := 71) rfl))) (g := (mkF m 78 #[.val (.int x1), .val (.long x2), .second, .val (.long x3), .second, .val (.long x4), .second, .val (.long x5), .second, .val (.long x6), .second, .val (.ref b1), .val (.int (1 : Int32)), .val (.int (0 : Int32)), .unset, .unset, .unset] [(.long x6), (.int (1 : Int32)), (.ref b5_0)])) rfl (hb hby at_78) _ ?_
      show Steps p.tables e below (T78.setTop (mkF m 81 #[.val (.int x1), .val (.long x2), .second, .val (.long x3), .second, .val (.long x4), .second, .val (.long x5), .second, .val (.long x6), .second, .val (.ref b1), .val (.int (1 : Int32)), .val (.int (0 : Int32)), .unset, .unset, .unset] [(.long (5 : Int64)), (.long x6), (.int (1 : Int32)), (.ref b5_0)])) _
      refine XS.lxor X78.here hx rfl (hb hby at_81) rfl ?_
      show Steps p.tables e below (T78.setTop (mkF m 82 #[.val (.int x1), .val (.long x2), .second, .val (.long x3), .second, .val (.long x4), .second, .val (.long x5), .second, .val (.long x6), .second, .val (.ref b1), .val (.int (1 : Int32)), .val (.int (0 : Int32)), .unset, .unset, .unset] [(.long (x6 ^^^ (5 : Int64))), (.int (1 : Int32)), (.ref b5_0)])) _
      refine st80 _ ?_
      show Steps p.tables e below (T80.setTop (mkF m 83 #[.val (.int x1), .val (.long x2), .second, .val (.long x3), .second, .val (.long x4), .second, .val (.long x5), .second, .val (.long x6), .second, .val (.ref b1), .val (.int (1 : Int32)), .val (.int (0 : Int32)), .unset, .unset, .unset] [])) _
      refine XS.aload X80.here hx rfl (hb hby at_83) rfl rfl ?_
      show Steps p.tables e below (T80.setTop (mkF m 85 #[.val (.int x1), .val (.long x2), .second, .val (.long x3), .second, .val (.long x4), .second, .val (.long x5), .second, .val (.long x6), .second, .val (.ref b1), .val (.int (1 : Int32)), .val (.int (0 : Int32)), .unset, .unset, .unset] [(.ref b1)])) _
      refine st82 _ ?_
      show Steps p.tables e below (T82.setTop (mkF m 88 #[.val (.int x1), .val (.long x2), .second, .val (.long x3), .second, .val (.long x4), .second, .val (.long x5), .second, .val (.long x6), .second, .val (.ref b1), .val (.int (1 : Int32)), .val (.int (0 : Int32)), .unset, .unset, .unset] [(.ref b5_2)])) _
      refine XS.iload X82.here hx rfl (hb hby at_88) rfl ?_
      show Steps p.tables e below (T82.setTop (mkF m 90 #[.val (.int x1), .val (.long x2), .second, .val (.long x3), .second, .val (.long x4), .second, .val (.long x5), .second, .val (.long x6), .second, .val (.ref b1), .val (.int (1 : Int32)), .val (.int (0 : Int32)), .unset, .unset, .unset] [(.int (1 : Int32)), (.ref b5_2)])) _
      refine XS.lload X82.here hx rfl (hb hby at_90) rfl ?_
      show Steps p.tables e below (T82.setTop (mkF m 92 #[.val (.int x1), .val (.long x2), .second, .val (.long x3), .second, .val (.long x4), .second, .val (.long x5), .second, .val (.long x6), .second, .val (.ref b1), .val (.int (1 : Int32)), .val (.int (0 : Int32)), .unset, .unset, .unset] [(.long x6), (.int (1 : Int32)), (.ref b5_2)])) _
      refine X82.ldc2Long hx hown (mvT hZ (hw _ (List.mem_of_getElem? (i := 73) rfl))) (g := (mkF m 92 #[.val (.int x1), .val (.long x2), .second, .val (.long x3), .second, .val (.long x4), .second, .val (.long x5), .second, .val (.long x6), .second, .val (.ref b1), .val (.int (1 : Int32)), .val (.int (0 : Int32)), .unset, .unset, .unset] [(.long x6), (.int (1 : Int32)), (.ref b5_2)])) rfl (hb hby at_92) _ ?_
      show Steps p.tables e below (T82.setTop (mkF m 95 #[.val (.int x1), .val (.long x2), .second, .val (.long x3), .second, .val (.long x4), .second, .val (.long x5), .second, .val (.long x6), .second, .val (.ref b1), .val (.int (1 : Int32)), .val (.int (0 : Int32)), .unset, .unset, .unset] [(.long (9 : Int64)), (.long x6), (.int (1 : Int32)), (.ref b5_2)])) _
      refine XS.lxor X82.here hx rfl (hb hby at_95) rfl ?_
      show Steps p.tables e below (T82.setTop (mkF m 96 #[.val (.int x1), .val (.long x2), .second, .val (.long x3), .second, .val (.long x4), .second, .val (.long x5), .second, .val (.long x6), .second, .val (.ref b1), .val (.int (1 : Int32)), .val (.int (0 : Int32)), .unset, .unset, .unset] [(.long (x6 ^^^ (9 : Int64))), (.int (1 : Int32)), (.ref b5_2)])) _
      refine st84 _ ?_
      show Steps p.tables e below (T84.setTop (mkF m 97 #[.val (.int x1), .val (.long x2), .second, .val (.long x3), .second, .val (.long x4), .second, .val (.long x5), .second, .val (.long x6), .second, .val (.ref b1), .val (.int (1 : Int32)), .val (.int (0 : Int32)), .unset, .unset, .unset] [])) _
      refine XS.aload X84.here hx rfl (hb hby at_97) rfl rfl ?_
      show Steps p.tables e below (T84.setTop (mkF m 99 #[.val (.int x1), .val (.long x2), .second, .val (.long x3), .second, .val (.long x4), .second, .val (.long x5), .second, .val (.long x6), .second, .val (.ref b1), .val (.int (1 : Int32)), .val (.int (0 : Int32)), .unset, .unset, .unset] [(.ref b1)])) _
      refine st86 _ ?_
      show Steps p.tables e below (T86.setTop (mkF m 102 #[.val (.int x1), .val (.long x2), .second, .val (.long x3), .second, .val (.long x4), .second, .val (.long x5), .second, .val (.long x6), .second, .val (.ref b1), .val (.int (1 : Int32)), .val (.int (0 : Int32)), .unset, .unset, .unset] [(.ref b5_3)])) _
      refine XS.iload X86.here hx rfl (hb hby at_102) rfl ?_
      show Steps p.tables e below (T86.setTop (mkF m 104 #[.val (.int x1), .val (.long x2), .second, .val (.long x3), .second, .val (.long x4), .second, .val (.long x5), .second, .val (.long x6), .second, .val (.ref b1), .val (.int (1 : Int32)), .val (.int (0 : Int32)), .unset, .unset, .unset] [(.int (1 : Int32)), (.ref b5_3)])) _
      refine XS.lloadN X86.here hx rfl (hb hby at_104) rfl ?_
      show Steps p.tables e below (T86.setTop (mkF m 105 #[.val (.int x1), .val (.long x2), .second, .val (.long x3), .second, .val (.long x4), .second, .val (.long x5), .second, .val (.long x6), .second, .val (.ref b1), .val (.int (1 : Int32)), .val (.int (0 : Int32)), .unset, .unset, .unset] [(.long x2), (.int (1 : Int32)), (.ref b5_3)])) _
      refine X86.ldc2Long hx hown (mvT hZ (hw _ (List.mem_of_getElem? (i := 69) rfl))) (g := (mkF m 105 #[.val (.int x1), .val (.long x2), .second, .val (.long x3), .second, .val (.long x4), .second, .val (.long x5), .second, .val (.long x6), .second, .val (.ref b1), .val (.int (1 : Int32)), .val (.int (0 : Int32)), .unset, .unset, .unset] [(.long x2), (.int (1 : Int32)), (.ref b5_3)])) rfl (hb hby at_105) _ ?_
      show Steps p.tables e below (T86.setTop (mkF m 108 #[.val (.int x1), .val (.long x2), .second, .val (.long x3), .second, .val (.long x4), .second, .val (.long x5), .second, .val (.long x6), .second, .val (.ref b1), .val (.int (1 : Int32)), .val (.int (0 : Int32)), .unset, .unset, .unset] [(.long (-1 : Int64)), (.long x2), (.int (1 : Int32)), (.ref b5_3)])) _
      refine XS.lxor X86.here hx rfl (hb hby at_108) rfl ?_
      show Steps p.tables e below (T86.setTop (mkF m 109 #[.val (.int x1), .val (.long x2), .second, .val (.long x3), .second, .val (.long x4), .second, .val (.long x5), .second, .val (.long x6), .second, .val (.ref b1), .val (.int (1 : Int32)), .val (.int (0 : Int32)), .unset, .unset, .unset] [(.long (x2 ^^^ (-1 : Int64))), (.int (1 : Int32)), (.ref b5_3)])) _
      refine st88 _ ?_
      show Steps p.tables e below (T88.setTop (mkF m 110 #[.val (.int x1), .val (.long x2), .second, .val (.long x3), .second, .val (.long x4), .second, .val (.long x5), .second, .val (.long x6), .second, .val (.ref b1), .val (.int (1 : Int32)), .val (.int (0 : Int32)), .unset, .unset, .unset] [])) _
      refine XS.aload X88.here hx rfl (hb hby at_110) rfl rfl ?_
      show Steps p.tables e below (T88.setTop (mkF m 112 #[.val (.int x1), .val (.long x2), .second, .val (.long x3), .second, .val (.long x4), .second, .val (.long x5), .second, .val (.long x6), .second, .val (.ref b1), .val (.int (1 : Int32)), .val (.int (0 : Int32)), .unset, .unset, .unset] [(.ref b1)])) _
      refine XS.iload X88.here hx rfl (hb hby at_112) rfl ?_
      show Steps p.tables e below (T88.setTop (mkF m 114 #[.val (.int x1), .val (.long x2), .second, .val (.long x3), .second, .val (.long x4), .second, .val (.long x5), .second, .val (.long x6), .second, .val (.ref b1), .val (.int (1 : Int32)), .val (.int (0 : Int32)), .unset, .unset, .unset] [(.int (1 : Int32)), (.ref b1)])) _
      refine XS.lloadN X88.here hx rfl (hb hby at_114) rfl ?_
      show Steps p.tables e below (T88.setTop (mkF m 115 #[.val (.int x1), .val (.long x2), .second, .val (.long x3), .second, .val (.long x4), .second, .val (.long x5), .second, .val (.long x6), .second, .val (.ref b1), .val (.int (1 : Int32)), .val (.int (0 : Int32)), .unset, .unset, .unset] [(.long x3), (.int (1 : Int32)), (.ref b1)])) _
      refine XS.lload X88.here hx rfl (hb hby at_115) rfl ?_
      show Steps p.tables e below (T88.setTop (mkF m 117 #[.val (.int x1), .val (.long x2), .second, .val (.long x3), .second, .val (.long x4), .second, .val (.long x5), .second, .val (.long x6), .second, .val (.ref b1), .val (.int (1 : Int32)), .val (.int (0 : Int32)), .unset, .unset, .unset] [(.long x5), (.long x3), (.int (1 : Int32)), (.ref b1)])) _
      refine st90.trans ?_
      show Steps p.tables e below (T90.setTop (mkF m 120 #[.val (.int x1), .val (.long x2), .second, .val (.long x3), .second, .val (.long x4), .second, .val (.long x5), .second, .val (.long x6), .second, .val (.ref b1), .val (.int (1 : Int32)), .val (.int (0 : Int32)), .unset, .unset, .unset] [])) _
      refine XS.lload X90.here hx rfl (hb hby at_120) rfl ?_
      show Steps p.tables e below (T90.setTop (mkF m 122 #[.val (.int x1), .val (.long x2), .second, .val (.long x3), .second, .val (.long x4), .second, .val (.long x5), .second, .val (.long x6), .second, .val (.ref b1), .val (.int (1 : Int32)), .val (.int (0 : Int32)), .unset, .unset, .unset] [(.long x4)])) _
      refine XS.lstore X90.here hx rfl (hb hby at_122) rfl (l' := #[.val (.int x1), .val (.long x2), .second, .val (.long x3), .second, .val (.long x4), .second, .val (.long x5), .second, .val (.long x6), .second, .val (.ref b1), .val (.int (1 : Int32)), .val (.int (0 : Int32)), .val (.long x4), .second, .unset]) rfl ?_
      show Steps p.tables e below (T90.setTop (mkF m 124 #[.val (.int x1), .val (.long x2), .second, .val (.long x3), .second, .val (.long x4), .second, .val (.long x5), .second, .val (.long x6), .second, .val (.ref b1), .val (.int (1 : Int32)), .val (.int (0 : Int32)), .val (.long x4), .second, .unset] [])) _
      refine XS.lload X90.here hx rfl (hb hby at_124) rfl ?_
      show Steps p.tables e below (T90.setTop (mkF m 126 #[.val (.int x1), .val (.long x2), .second, .val (.long x3), .second, .val (.long x4), .second, .val (.long x5), .second, .val (.long x6), .second, .val (.ref b1), .val (.int (1 : Int32)), .val (.int (0 : Int32)), .val (.long x4), .second, .unset] [(.long x5)])) _
      refine XS.lload X90.here hx rfl (hb hby at_126) rfl ?_
      show Steps p.tables e below (T90.setTop (mkF m 128 #[.val (.int x1), .val (.long x2), .second, .val (.long x3), .second, .val (.long x4), .second, .val (.long x5), .second, .val (.long x6), .second, .val (.ref b1), .val (.int (1 : Int32)), .val (.int (0 : Int32)), .val (.long x4), .second, .unset] [(.long x4), (.long x5)])) _
      refine XS.lcmp X90.here hx rfl (hb hby at_128) rfl ?_
      show Steps p.tables e below (T90.setTop (mkF m 129 #[.val (.int x1), .val (.long x2), .second, .val (.long x3), .second, .val (.long x4), .second, .val (.long x5), .second, .val (.long x6), .second, .val (.ref b1), .val (.int (1 : Int32)), .val (.int (0 : Int32)), .val (.long x4), .second, .unset] [(.int (lcmpW x5 x4))])) _
      by_cases hc92 : x5 < x4
      · skip
        refine XS.ifNo X90.here hx rfl (hb hby at_129) rfl ((if0 _ _).trans (tlt ((lw_lt _ _).mpr hc92)).2.1) ?_
        show Steps p.tables e below (T90.setTop (mkF m 132 #[.val (.int x1), .val (.long x2), .second, .val (.long x3), .second, .val (.long x4), .second, .val (.long x5), .second, .val (.long x6), .second, .val (.ref b1), .val (.int (1 : Int32)), .val (.int (0 : Int32)), .val (.long x4), .second, .unset] [])) _
        refine XS.lload X90.here hx rfl (hb hby at_132) rfl ?_
        show Steps p.tables e below (T90.setTop (mkF m 134 #[.val (.int x1), .val (.long x2), .second, .val (.long x3), .second, .val (.long x4), .second, .val (.long x5), .second, .val (.long x6), .second, .val (.ref b1), .val (.int (1 : Int32)), .val (.int (0 : Int32)), .val (.long x4), .second, .unset] [(.long x5)])) _
        refine XS.lstore X90.here hx rfl (hb hby at_134) rfl (l' := #[.val (.int x1), .val (.long x2), .second, .val (.long x3), .second, .val (.long x4), .second, .val (.long x5), .second, .val (.long x6), .second, .val (.ref b1), .val (.int (1 : Int32)), .val (.int (0 : Int32)), .val (.long x5), .second, .unset]) rfl ?_
        exact castTop (congrArg (fun z_ => (mkF m 136 #[.val (.int x1), .val (.long x2), .second, .val (.long x3), .second, .val (.long x4), .second, .val (.long x5), .second, .val (.long x6), .second, .val (.ref b1), .val (.int (1 : Int32)), .val (.int (0 : Int32)), .val (.long z_), .second, .unset] [])) (show x5 = (if x5 < x4 then x5 else x4) from by rw [if_pos hc92])) k
      · skip
        refine XS.ifYes X90.here hx rfl (pc0 := 129) (pc' := 136) rfl (hb hby at_129) rfl ((if0 _ _).trans (flt (fun q => hc92 ((lw_lt _ _).mp q))).2.1) (by decide) (by decide) ?_
        exact castTop (congrArg (fun z_ => (mkF m 136 #[.val (.int x1), .val (.long x2), .second, .val (.long x3), .second, .val (.long x4), .second, .val (.long x5), .second, .val (.long x6), .second, .val (.ref b1), .val (.int (1 : Int32)), .val (.int (0 : Int32)), .val (.long z_), .second, .unset] [])) (show x4 = (if x5 < x4 then x5 else x4) from by rw [if_neg hc92])) k)
    obtain ⟨T94, X94, e94, st94⟩ := getF X90 hx hZ hown (host := "") (Or.inl (hw _ (List.mem_of_getElem? (i := 67) rfl))) Via.refl rfl F5_1 (g := (mkF m 138 #[.val (.int x1), .val (.long x2), .second, .val (.long x3), .second, .val (.long x4), .second, .val (.long x5), .second, .val (.long x6), .second, .val (.ref b1), .val (.int (1 : Int32)), .val (.int (0 : Int32)), .val (.long (if x5 < x4 then x5 else x4)), .second, .unset] [(.ref b1)])) rfl rfl (hb hby at_138)
    obtain ⟨cl95, Ar95, q95, S95, M95, H95, G95⟩ := id Vn90
    have hin95 : ¬ ((1 : Int32) < 0 ∨ cl95.slots.size ≤ ((1 : Int32)).toNatClampNeg) := inb_of S95 ⟨by decide, by decide⟩
    obtain ⟨T96, X96, e96, st96⟩ := getF X94 hx hZ hown (host := "") (Or.inl (hw _ (List.mem_of_getElem? (i := 68) rfl))) Via.refl e94 F5_4 (g := (mkF m 165 #[.val (.int x1), .val (.long x2), .second, .val (.long x3), .second, .val (.long x4), .second, .val (.long x5), .second, .val (.long x6), .second, .val (.ref b1), .val (.int (1 : Int32)), .val (.int (0 : Int32)), .val (.long (if x5 < x4 then x5 else x4)), .second, .val (.int (1 : Int32))] [(.ref b1)])) rfl rfl (hb hby at_165)
    obtain ⟨cl97, Ar97, q97, S97, M97, H97, G97⟩ := id Vf90
    have hin97 : ¬ ((1 : Int32) < 0 ∨ cl97.slots.size ≤ ((1 : Int32)).toNatClampNeg) := inb_of S97 ⟨by decide, by decide⟩
    obtain ⟨T98, X98, e98, st98⟩ := getF X96 hx hZ hown (host := "") (Or.inl (hw _ (List.mem_of_getElem? (i := 67) rfl))) Via.refl e96 F5_1 (g := (mkF m 191 #[.val (.int x1), .val (.long x2), .second, .val (.long x3), .second, .val (.long x4), .second, .val (.long x5), .second, .val (.long x6), .second, .val (.ref b1), .val (.int (1 : Int32)), .val (.int (0 : Int32)), .val (.long (if x5 < x4 then x5 else x4)), .second, .val (.int (1 : Int32))] [(.ref b1)])) rfl rfl (hb hby at_191)
    obtain ⟨cl99, Ar99, q99, S99, M99, H99, G99⟩ := id Vn90
    have hin99 : ¬ ((0 : Int32) < 0 ∨ cl99.slots.size ≤ ((0 : Int32)).toNatClampNeg) := inb_of S99 ⟨by decide, by decide⟩
    obtain ⟨T100, X100, e100, st100⟩ := getF X98 hx hZ hown (host := "") (Or.inl (hw _ (List.mem_of_getElem? (i := 68) rfl))) Via.refl e98 F5_4 (g := (mkF m 217 #[.val (.int x1), .val (.long x2), .second, .val (.long x3), .second, .val (.long x4), .second, .val (.long x5), .second, .val (.long x6), .second, .val (.ref b1), .val (.int (1 : Int32)), .val (.int (0 : Int32)), .val (.long (if x5 < x4 then x5 else x4)), .second, .val (.int (1 : Int32))] [(.ref b1)])) rfl rfl (hb hby at_217)
    obtain ⟨cl101, Ar101, q101, S101, M101, H101, G101⟩ := id Vf90
    have hin101 : ¬ ((0 : Int32) < 0 ∨ cl101.slots.size ≤ ((0 : Int32)).toNatClampNeg) := inb_of S101 ⟨by decide, by decide⟩
    obtain ⟨T102, X102, e102, st102⟩ := getF X100 hx hZ hown (host := "") (Or.inl (hw _ (List.mem_of_getElem? (i := 70) rfl))) Via.refl e100 F5_0 (g := (mkF m 247 #[.val (.int x1), .val (.long x2), .second, .val (.long x3), .second, .val (.long x4), .second, .val (.long x5), .second, .val (.long x6), .second, .val (.ref b1), .val (.int (1 : Int32)), .val (.int (0 : Int32)), .val (.long (if x5 < x4 then x5 else x4)), .second, .val (.int (1 : Int32))] [(.ref b1)])) rfl rfl (hb hby at_247)
    obtain ⟨cl103, Ar103, q103, S103, M103, H103, G103⟩ := id V5_0
    have hin103 : ¬ ((1 : Int32) < 0 ∨ cl103.slots.size ≤ ((1 : Int32)).toNatClampNeg) := inb_of S103 ⟨by decide, by decide⟩
    obtain ⟨T104, X104, e104, st104⟩ := getF X102 hx hZ hown (host := "") (Or.inl (hw _ (List.mem_of_getElem? (i := 72) rfl))) Via.refl e102 F5_2 (g := (mkF m 277 #[.val (.int x1), .val (.long x2), .second, .val (.long x3), .second, .val (.long x4), .second, .val (.long x5), .second, .val (.long x6), .second, .val (.ref b1), .val (.int (1 : Int32)), .val (.int (0 : Int32)), .val (.long (if x5 < x4 then x5 else x4)), .second, .val (.int (1 : Int32))] [(.ref b1)])) rfl rfl (hb hby at_277)
    obtain ⟨cl105, Ar105, q105, S105, M105, H105, G105⟩ := id V5_2
    have hin105 : ¬ ((1 : Int32) < 0 ∨ cl105.slots.size ≤ ((1 : Int32)).toNatClampNeg) := inb_of S105 ⟨by decide, by decide⟩
    obtain ⟨T106, X106, e106, st106⟩ := getF X104 hx hZ hown (host := "") (Or.inl (hw _ (List.mem_of_getElem? (i := 74) rfl))) Via.refl e104 F5_3 (g := (mkF m 307 #[.val (.int x1), .val (.long x2), .second, .val (.long x3), .second, .val (.long x4), .second, .val (.long x5), .second, .val (.long x6), .second, .val (.ref b1), .val (.int (1 : Int32)), .val (.int (0 : Int32)), .val (.long (if x5 < x4 then x5 else x4)), .second, .val (.int (1 : Int32))] [(.ref b1)])) rfl rfl (hb hby at_307)
    obtain ⟨cl107, Ar107, q107, S107, M107, H107, G107⟩ := id V5_3
    have hin107 : ¬ ((1 : Int32) < 0 ∨ cl107.slots.size ≤ ((1 : Int32)).toNatClampNeg) := inb_of S107 ⟨by decide, by decide⟩
    obtain ⟨T108, X108, e108, st108⟩ := getF X106 hx hZ hown (host := "") (Or.inl (hw _ (List.mem_of_getElem? (i := 70) rfl))) Via.refl e106 F5_0 (g := (mkF m 336 #[.val (.int x1), .val (.long x2), .second, .val (.long x3), .second, .val (.long x4), .second, .val (.long x5), .second, .val (.long x6), .second, .val (.ref b1), .val (.int (1 : Int32)), .val (.int (0 : Int32)), .val (.long (if x5 < x4 then x5 else x4)), .second, .val (.int (1 : Int32))] [(.ref b1)])) rfl rfl (hb hby at_336)
    obtain ⟨cl109, Ar109, q109, S109, M109, H109, G109⟩ := id V5_0
    have hin109 : ¬ ((0 : Int32) < 0 ∨ cl109.slots.size ≤ ((0 : Int32)).toNatClampNeg) := inb_of S109 ⟨by decide, by decide⟩
    obtain ⟨T110, X110, e110, st110⟩ := getF X108 hx hZ hown (host := "") (Or.inl (hw _ (List.mem_of_getElem? (i := 72) rfl))) Via.refl e108 F5_2 (g := (mkF m 361 #[.val (.int x1), .val (.long x2), .second, .val (.long x3), .second, .val (.long x4), .second, .val (.long x5), .second, .val (.long x6), .second, .val (.ref b1), .val (.int (1 : Int32)), .val (.int (0 : Int32)), .val (.long (if x5 < x4 then x5 else x4)), .second, .val (.int (1 : Int32))] [(.ref b1)])) rfl rfl (hb hby at_361)
    obtain ⟨cl111, Ar111, q111, S111, M111, H111, G111⟩ := id V5_2
    have hin111 : ¬ ((0 : Int32) < 0 ∨ cl111.slots.size ≤ ((0 : Int32)).toNatClampNeg) := inb_of S111 ⟨by decide, by decide⟩
    obtain ⟨T112, X112, e112, st112⟩ := getF X110 hx hZ hown (host := "") (Or.inl (hw _ (List.mem_of_getElem? (i := 74) rfl))) Via.refl e110 F5_3 (g := (mkF m 386 #[.val (.int x1), .val (.long x2), .second, .val (.long x3), .second, .val (.long x4), .second, .val (.long x5), .second, .val (.long x6), .second, .val (.ref b1), .val (.int (1 : Int32)), .val (.int (0 : Int32)), .val (.long (if x5 < x4 then x5 else x4)), .second, .val (.int (1 : Int32))] [(.ref b1)])) rfl rfl (hb hby at_386)
    obtain ⟨cl113, Ar113, q113, S113, M113, H113, G113⟩ := id V5_3
    have hin113 : ¬ ((0 : Int32) < 0 ∨ cl113.slots.size ≤ ((0 : Int32)).toNatClampNeg) := inb_of S113 ⟨by decide, by decide⟩
    obtain ⟨cq114, kq114, q114a, q114b, q114c⟩ := isOf hZ e112 Ee5
    obtain ⟨_, _, ⟨T114, L114, k114, n114⟩, -, X114, ⟨Lc114, hQ114, l114, y114, z114⟩, st114⟩ := X112.virtualBack hx (y := (⟨"com/example/synclattice/synclattice/sync/StatePairs", "count", "()I"⟩ : MethodName)) (z := (⟨"com/example/synclattice/synclattice/sync/StatePairs", "count", "()I"⟩ : MethodName)) hown (mvT hZ (hw _ (List.mem_of_getElem? (i := 84) rfl))) (mvT hZ (hw _ (List.mem_of_getElem? (i := 85) rfl))) (notFace_of_selects (args := #[]) (mvT hZ (hw _ (List.mem_of_getElem? (i := 87) rfl)))) (mvT hZ (hw _ (List.mem_of_getElem? (i := 87) rfl))) (mvT hZ (hw _ (List.mem_of_getElem? (i := 86) rfl))) (by decide) (backOf (W := 0) (own_count l Z a0 hw [] b1 (2 : Int32) T90.heap n0 Z91 Fc5) hZ (hw _ (List.mem_of_getElem? (i := 88) rfl)) (hw _ (List.mem_of_getElem? (i := 2) rfl)) (by decide) (by decide)) q114a q114c (g := (mkF m 413 #[.val (.int x1), .val (.long x2), .second, .val (.long x3), .second, .val (.long x4), .second, .val (.long x5), .second, .val (.long x6), .second, .val (.ref b1), .val (.int (1 : Int32)), .val (.int (0 : Int32)), .val (.long (if x5 < x4 then x5 else x4)), .second, .val (.int (1 : Int32))] [(.ref b1)])) rfl (by rw [hml]; rfl) (Steps.refl _) (argsL := []) (rest := []) (lenOf own_pd7 rfl) rfl (by show 2 * 0 + _ ≤ _; exact Nat.le_of_eq rfl) (hb hby at_413) (fun _ _ => ⟨rfl, e112, (by decide : 19 + 0 ≤ _), (by decide : 60 + 0 ≤ _)⟩)
    dsimp only [Pt.U, Pt.locs, Pt.cells, Pt.slots] at X114 l114 y114 z114 st114 hQ114
    subst l114 y114 z114
    obtain ⟨rfl, N114q, e114⟩ := hQ114
    have N114 := Fr.app N90 N114q
    obtain ⟨fs, hr, hrun, hended, hW, hsame⟩ := X114.leave (v := some (.int (1 : Int32))) (fun h => by rw [Bd.returns] at h; cases h)
    refine ⟨_, _, pre93 _ ?_, hrun, hended, _, _, rfl, ?_, ⟨_, rfl⟩, hW, hsame.mono (by decide) (by decide)⟩
    · show Steps p.tables e below (T90.setTop (mkF m 136 #[.val (.int x1), .val (.long x2), .second, .val (.long x3), .second, .val (.long x4), .second, .val (.long x5), .second, .val (.long x6), .second, .val (.ref b1), .val (.int (1 : Int32)), .val (.int (0 : Int32)), .val (.long (if x5 < x4 then x5 else x4)), .second, .unset] [])) _
      refine XS.aload X90.here hx rfl (hb hby at_136) rfl rfl ?_
      show Steps p.tables e below (T90.setTop (mkF m 138 #[.val (.int x1), .val (.long x2), .second, .val (.long x3), .second, .val (.long x4), .second, .val (.long x5), .second, .val (.long x6), .second, .val (.ref b1), .val (.int (1 : Int32)), .val (.int (0 : Int32)), .val (.long (if x5 < x4 then x5 else x4)), .second, .unset] [(.ref b1)])) _
      refine st94 _ ?_
      show Steps p.tables e below (T94.setTop (mkF m 141 #[.val (.int x1), .val (.long x2), .second, .val (.long x3), .second, .val (.long x4), .second, .val (.long x5), .second, .val (.long x6), .second, .val (.ref b1), .val (.int (1 : Int32)), .val (.int (0 : Int32)), .val (.long (if x5 < x4 then x5 else x4)), .second, .unset] [(.ref b5_1)])) _
      refine XS.iload X94.here hx rfl (hb hby at_141) rfl ?_
      show Steps p.tables e below (T94.setTop (mkF m 143 #[.val (.int x1), .val (.long x2), .second, .val (.long x3), .second, .val (.long x4), .second, .val (.long x5), .second, .val (.long x6), .second, .val (.ref b1), .val (.int (1 : Int32)), .val (.int (0 : Int32)), .val (.long (if x5 < x4 then x5 else x4)), .second, .unset] [(.int (1 : Int32)), (.ref b5_1)])) _
      refine X94.laload hx (j := (1 : Int32)) (v := (.long (x2 + x3))) (by rw [e94]; exact Ar95.1) (State.isArrayOf_alike hZ.alike Ar95.2.1) Ar95.2.2 hin95 (H95.at hin95 rfl) (g := (mkF m 143 #[.val (.int x1), .val (.long x2), .second, .val (.long x3), .second, .val (.long x4), .second, .val (.long x5), .second, .val (.long x6), .second, .val (.ref b1), .val (.int (1 : Int32)), .val (.int (0 : Int32)), .val (.long (if x5 < x4 then x5 else x4)), .second, .unset] [(.int (1 : Int32)), (.ref b5_1)])) rfl rfl (hb hby at_143) _ ?_
      show Steps p.tables e below (T94.setTop (mkF m 144 #[.val (.int x1), .val (.long x2), .second, .val (.long x3), .second, .val (.long x4), .second, .val (.long x5), .second, .val (.long x6), .second, .val (.ref b1), .val (.int (1 : Int32)), .val (.int (0 : Int32)), .val (.long (if x5 < x4 then x5 else x4)), .second, .unset] [(.long (x2 + x3))])) _
      refine XS.lloadN X94.here hx rfl (hb hby at_144) rfl ?_
      show Steps p.tables e below (T94.setTop (mkF m 145 #[.val (.int x1), .val (.long x2), .second, .val (.long x3), .second, .val (.long x4), .second, .val (.long x5), .second, .val (.long x6), .second, .val (.ref b1), .val (.int (1 : Int32)), .val (.int (0 : Int32)), .val (.long (if x5 < x4 then x5 else x4)), .second, .unset] [(.long x2), (.long (x2 + x3))])) _
      refine XS.lloadN X94.here hx rfl (hb hby at_145) rfl ?_
      show Steps p.tables e below (T94.setTop (mkF m 146 #[.val (.int x1), .val (.long x2), .second, .val (.long x3), .second, .val (.long x4), .second, .val (.long x5), .second, .val (.long x6), .second, .val (.ref b1), .val (.int (1 : Int32)), .val (.int (0 : Int32)), .val (.long (if x5 < x4 then x5 else x4)), .second, .unset] [(.long x3), (.long x2), (.long (x2 + x3))])) _
      refine XS.ladd X94.here hx rfl (hb hby at_146) rfl ?_
      show Steps p.tables e below (T94.setTop (mkF m 147 #[.val (.int x1), .val (.long x2), .second, .val (.long x3), .second, .val (.long x4), .second, .val (.long x5), .second, .val (.long x6), .second, .val (.ref b1), .val (.int (1 : Int32)), .val (.int (0 : Int32)), .val (.long (if x5 < x4 then x5 else x4)), .second, .unset] [(.long (x2 + x3)), (.long (x2 + x3))])) _
      refine XS.lcmp X94.here hx rfl (hb hby at_147) rfl ?_
      show Steps p.tables e below (T94.setTop (mkF m 148 #[.val (.int x1), .val (.long x2), .second, .val (.long x3), .second, .val (.long x4), .second, .val (.long x5), .second, .val (.long x6), .second, .val (.ref b1), .val (.int (1 : Int32)), .val (.int (0 : Int32)), .val (.long (if x5 < x4 then x5 else x4)), .second, .unset] [(.int (lcmpW (x2 + x3) (x2 + x3)))])) _
      refine XS.ifNo X94.here hx rfl (hb hby at_148) rfl ((if0 _ _).trans (teq ((lw_eq _ _).mpr (rfl : (x2 + x3) = (x2 + x3)))).2) ?_
      show Steps p.tables e below (T94.setTop (mkF m 151 #[.val (.int x1), .val (.long x2), .second, .val (.long x3), .second, .val (.long x4), .second, .val (.long x5), .second, .val (.long x6), .second, .val (.ref b1), .val (.int (1 : Int32)), .val (.int (0 : Int32)), .val (.long (if x5 < x4 then x5 else x4)), .second, .unset] [])) _
      refine XS.iconst X94.here hx rfl (hb hby at_151) ?_
      show Steps p.tables e below (T94.setTop (mkF m 152 #[.val (.int x1), .val (.long x2), .second, .val (.long x3), .second, .val (.long x4), .second, .val (.long x5), .second, .val (.long x6), .second, .val (.ref b1), .val (.int (1 : Int32)), .val (.int (0 : Int32)), .val (.long (if x5 < x4 then x5 else x4)), .second, .unset] [(.int (1 : Int32))])) _
      refine XS.goto X94.here hx rfl (pc0 := 152) (pc' := 156) rfl (hb hby at_152) (by decide) (by decide) ?_
      show Steps p.tables e below (T94.setTop (mkF m 156 #[.val (.int x1), .val (.long x2), .second, .val (.long x3), .second, .val (.long x4), .second, .val (.long x5), .second, .val (.long x6), .second, .val (.ref b1), .val (.int (1 : Int32)), .val (.int (0 : Int32)), .val (.long (if x5 < x4 then x5 else x4)), .second, .unset] [(.int (1 : Int32))])) _
      refine XS.istore X94.here hx rfl (hb hby at_156) rfl (l' := #[.val (.int x1), .val (.long x2), .second, .val (.long x3), .second, .val (.long x4), .second, .val (.long x5), .second, .val (.long x6), .second, .val (.ref b1), .val (.int (1 : Int32)), .val (.int (0 : Int32)), .val (.long (if x5 < x4 then x5 else x4)), .second, .val (.int (1 : Int32))]) rfl ?_
      show Steps p.tables e below (T94.setTop (mkF m 158 #[.val (.int x1), .val (.long x2), .second, .val (.long x3), .second, .val (.long x4), .second, .val (.long x5), .second, .val (.long x6), .second, .val (.ref b1), .val (.int (1 : Int32)), .val (.int (0 : Int32)), .val (.long (if x5 < x4 then x5 else x4)), .second, .val (.int (1 : Int32))] [])) _
      refine XS.iload X94.here hx rfl (hb hby at_158) rfl ?_
      show Steps p.tables e below (T94.setTop (mkF m 160 #[.val (.int x1), .val (.long x2), .second, .val (.long x3), .second, .val (.long x4), .second, .val (.long x5), .second, .val (.long x6), .second, .val (.ref b1), .val (.int (1 : Int32)), .val (.int (0 : Int32)), .val (.long (if x5 < x4 then x5 else x4)), .second, .val (.int (1 : Int32))] [(.int (1 : Int32))])) _
      refine XS.ifNo X94.here hx rfl (hb hby at_160) rfl ((if0 _ _).trans (feq (by decide : ¬ ((1 : Int32) = (0 : Int32)))).1) ?_
      show Steps p.tables e below (T94.setTop (mkF m 163 #[.val (.int x1), .val (.long x2), .second, .val (.long x3), .second, .val (.long x4), .second, .val (.long x5), .second, .val (.long x6), .second, .val (.ref b1), .val (.int (1 : Int32)), .val (.int (0 : Int32)), .val (.long (if x5 < x4 then x5 else x4)), .second, .val (.int (1 : Int32))] [])) _
      refine XS.aload X94.here hx rfl (hb hby at_163) rfl rfl ?_
      show Steps p.tables e below (T94.setTop (mkF m 165 #[.val (.int x1), .val (.long x2), .second, .val (.long x3), .second, .val (.long x4), .second, .val (.long x5), .second, .val (.long x6), .second, .val (.ref b1), .val (.int (1 : Int32)), .val (.int (0 : Int32)), .val (.long (if x5 < x4 then x5 else x4)), .second, .val (.int (1 : Int32))] [(.ref b1)])) _
      refine st96 _ ?_
      show Steps p.tables e below (T96.setTop (mkF m 168 #[.val (.int x1), .val (.long x2), .second, .val (.long x3), .second, .val (.long x4), .second, .val (.long x5), .second, .val (.long x6), .second, .val (.ref b1), .val (.int (1 : Int32)), .val (.int (0 : Int32)), .val (.long (if x5 < x4 then x5 else x4)), .second, .val (.int (1 : Int32))] [(.ref b5_4)])) _
      refine XS.iload X96.here hx rfl (hb hby at_168) rfl ?_
      show Steps p.tables e below (T96.setTop (mkF m 170 #[.val (.int x1), .val (.long x2), .second, .val (.long x3), .second, .val (.long x4), .second, .val (.long x5), .second, .val (.long x6), .second, .val (.ref b1), .val (.int (1 : Int32)), .val (.int (0 : Int32)), .val (.long (if x5 < x4 then x5 else x4)), .second, .val (.int (1 : Int32))] [(.int (1 : Int32)), (.ref b5_4)])) _
      refine X96.laload hx (j := (1 : Int32)) (v := (.long (if x5 < x4 then x5 else x4))) (by rw [e96]; exact Ar97.1) (State.isArrayOf_alike hZ.alike Ar97.2.1) Ar97.2.2 hin97 (H97.at hin97 rfl) (g := (mkF m 170 #[.val (.int x1), .val (.long x2), .second, .val (.long x3), .second, .val (.long x4), .second, .val (.long x5), .second, .val (.long x6), .second, .val (.ref b1), .val (.int (1 : Int32)), .val (.int (0 : Int32)), .val (.long (if x5 < x4 then x5 else x4)), .second, .val (.int (1 : Int32))] [(.int (1 : Int32)), (.ref b5_4)])) rfl rfl (hb hby at_170) _ ?_
      show Steps p.tables e below (T96.setTop (mkF m 171 #[.val (.int x1), .val (.long x2), .second, .val (.long x3), .second, .val (.long x4), .second, .val (.long x5), .second, .val (.long x6), .second, .val (.ref b1), .val (.int (1 : Int32)), .val (.int (0 : Int32)), .val (.long (if x5 < x4 then x5 else x4)), .second, .val (.int (1 : Int32))] [(.long (if x5 < x4 then x5 else x4))])) _
      refine XS.lload X96.here hx rfl (hb hby at_171) rfl ?_
      show Steps p.tables e below (T96.setTop (mkF m 173 #[.val (.int x1), .val (.long x2), .second, .val (.long x3), .second, .val (.long x4), .second, .val (.long x5), .second, .val (.long x6), .second, .val (.ref b1), .val (.int (1 : Int32)), .val (.int (0 : Int32)), .val (.long (if x5 < x4 then x5 else x4)), .second, .val (.int (1 : Int32))] [(.long (if x5 < x4 then x5 else x4)), (.long (if x5 < x4 then x5 else x4))])) _
      refine XS.lcmp X96.here hx rfl (hb hby at_173) rfl ?_
      show Steps p.tables e below (T96.setTop (mkF m 174 #[.val (.int x1), .val (.long x2), .second, .val (.long x3), .second, .val (.long x4), .second, .val (.long x5), .second, .val (.long x6), .second, .val (.ref b1), .val (.int (1 : Int32)), .val (.int (0 : Int32)), .val (.long (if x5 < x4 then x5 else x4)), .second, .val (.int (1 : Int32))] [(.int (lcmpW (if x5 < x4 then x5 else x4) (if x5 < x4 then x5 else x4)))])) _
      refine XS.ifNo X96.here hx rfl (hb hby at_174) rfl ((if0 _ _).trans (teq ((lw_eq _ _).mpr (rfl : (if x5 < x4 then x5 else x4) = (if x5 < x4 then x5 else x4)))).2) ?_
      show Steps p.tables e below (T96.setTop (mkF m 177 #[.val (.int x1), .val (.long x2), .second, .val (.long x3), .second, .val (.long x4), .second, .val (.long x5), .second, .val (.long x6), .second, .val (.ref b1), .val (.int (1 : Int32)), .val (.int (0 : Int32)), .val (.long (if x5 < x4 then x5 else x4)), .second, .val (.int (1 : Int32))] [])) _
      refine XS.iconst X96.here hx rfl (hb hby at_177) ?_
      show Steps p.tables e below (T96.setTop (mkF m 178 #[.val (.int x1), .val (.long x2), .second, .val (.long x3), .second, .val (.long x4), .second, .val (.long x5), .second, .val (.long x6), .second, .val (.ref b1), .val (.int (1 : Int32)), .val (.int (0 : Int32)), .val (.long (if x5 < x4 then x5 else x4)), .second, .val (.int (1 : Int32))] [(.int (1 : Int32))])) _
      refine XS.goto X96.here hx rfl (pc0 := 178) (pc' := 182) rfl (hb hby at_178) (by decide) (by decide) ?_
      show Steps p.tables e below (T96.setTop (mkF m 182 #[.val (.int x1), .val (.long x2), .second, .val (.long x3), .second, .val (.long x4), .second, .val (.long x5), .second, .val (.long x6), .second, .val (.ref b1), .val (.int (1 : Int32)), .val (.int (0 : Int32)), .val (.long (if x5 < x4 then x5 else x4)), .second, .val (.int (1 : Int32))] [(.int (1 : Int32))])) _
      refine XS.istore X96.here hx rfl (hb hby at_182) rfl (l' := #[.val (.int x1), .val (.long x2), .second, .val (.long x3), .second, .val (.long x4), .second, .val (.long x5), .second, .val (.long x6), .second, .val (.ref b1), .val (.int (1 : Int32)), .val (.int (0 : Int32)), .val (.long (if x5 < x4 then x5 else x4)), .second, .val (.int (1 : Int32))]) rfl ?_
      show Steps p.tables e below (T96.setTop (mkF m 184 #[.val (.int x1), .val (.long x2), .second, .val (.long x3), .second, .val (.long x4), .second, .val (.long x5), .second, .val (.long x6), .second, .val (.ref b1), .val (.int (1 : Int32)), .val (.int (0 : Int32)), .val (.long (if x5 < x4 then x5 else x4)), .second, .val (.int (1 : Int32))] [])) _
      refine XS.iload X96.here hx rfl (hb hby at_184) rfl ?_
      show Steps p.tables e below (T96.setTop (mkF m 186 #[.val (.int x1), .val (.long x2), .second, .val (.long x3), .second, .val (.long x4), .second, .val (.long x5), .second, .val (.long x6), .second, .val (.ref b1), .val (.int (1 : Int32)), .val (.int (0 : Int32)), .val (.long (if x5 < x4 then x5 else x4)), .second, .val (.int (1 : Int32))] [(.int (1 : Int32))])) _
      refine XS.ifNo X96.here hx rfl (hb hby at_186) rfl ((if0 _ _).trans (feq (by decide : ¬ ((1 : Int32) = (0 : Int32)))).1) ?_
      show Steps p.tables e below (T96.setTop (mkF m 189 #[.val (.int x1), .val (.long x2), .second, .val (.long x3), .second, .val (.long x4), .second, .val (.long x5), .second, .val (.long x6), .second, .val (.ref b1), .val (.int (1 : Int32)), .val (.int (0 : Int32)), .val (.long (if x5 < x4 then x5 else x4)), .second, .val (.int (1 : Int32))] [])) _
      refine XS.aload X96.here hx rfl (hb hby at_189) rfl rfl ?_
      show Steps p.tables e below (T96.setTop (mkF m 191 #[.val (.int x1), .val (.long x2), .second, .val (.long x3), .second, .val (.long x4), .second, .val (.long x5), .second, .val (.long x6), .second, .val (.ref b1), .val (.int (1 : Int32)), .val (.int (0 : Int32)), .val (.long (if x5 < x4 then x5 else x4)), .second, .val (.int (1 : Int32))] [(.ref b1)])) _
      refine st98 _ ?_
      show Steps p.tables e below (T98.setTop (mkF m 194 #[.val (.int x1), .val (.long x2), .second, .val (.long x3), .second, .val (.long x4), .second, .val (.long x5), .second, .val (.long x6), .second, .val (.ref b1), .val (.int (1 : Int32)), .val (.int (0 : Int32)), .val (.long (if x5 < x4 then x5 else x4)), .second, .val (.int (1 : Int32))] [(.ref b5_1)])) _
      refine XS.iload X98.here hx rfl (hb hby at_194) rfl ?_
      show Steps p.tables e below (T98.setTop (mkF m 196 #[.val (.int x1), .val (.long x2), .second, .val (.long x3), .second, .val (.long x4), .second, .val (.long x5), .second, .val (.long x6), .second, .val (.ref b1), .val (.int (1 : Int32)), .val (.int (0 : Int32)), .val (.long (if x5 < x4 then x5 else x4)), .second, .val (.int (1 : Int32))] [(.int (0 : Int32)), (.ref b5_1)])) _
      refine X98.laload hx (j := (0 : Int32)) (v := (.long x6)) (by rw [e98]; exact Ar99.1) (State.isArrayOf_alike hZ.alike Ar99.2.1) Ar99.2.2 hin99 (H99.at hin99 rfl) (g := (mkF m 196 #[.val (.int x1), .val (.long x2), .second, .val (.long x3), .second, .val (.long x4), .second, .val (.long x5), .second, .val (.long x6), .second, .val (.ref b1), .val (.int (1 : Int32)), .val (.int (0 : Int32)), .val (.long (if x5 < x4 then x5 else x4)), .second, .val (.int (1 : Int32))] [(.int (0 : Int32)), (.ref b5_1)])) rfl rfl (hb hby at_196) _ ?_
      show Steps p.tables e below (T98.setTop (mkF m 197 #[.val (.int x1), .val (.long x2), .second, .val (.long x3), .second, .val (.long x4), .second, .val (.long x5), .second, .val (.long x6), .second, .val (.ref b1), .val (.int (1 : Int32)), .val (.int (0 : Int32)), .val (.long (if x5 < x4 then x5 else x4)), .second, .val (.int (1 : Int32))] [(.long x6)])) _
      refine XS.lload X98.here hx rfl (hb hby at_197) rfl ?_
      show Steps p.tables e below (T98.setTop (mkF m 199 #[.val (.int x1), .val (.long x2), .second, .val (.long x3), .second, .val (.long x4), .second, .val (.long x5), .second, .val (.long x6), .second, .val (.ref b1), .val (.int (1 : Int32)), .val (.int (0 : Int32)), .val (.long (if x5 < x4 then x5 else x4)), .second, .val (.int (1 : Int32))] [(.long x6), (.long x6)])) _
      refine XS.lcmp X98.here hx rfl (hb hby at_199) rfl ?_
      show Steps p.tables e below (T98.setTop (mkF m 200 #[.val (.int x1), .val (.long x2), .second, .val (.long x3), .second, .val (.long x4), .second, .val (.long x5), .second, .val (.long x6), .second, .val (.ref b1), .val (.int (1 : Int32)), .val (.int (0 : Int32)), .val (.long (if x5 < x4 then x5 else x4)), .second, .val (.int (1 : Int32))] [(.int (lcmpW x6 x6))])) _
      refine XS.ifNo X98.here hx rfl (hb hby at_200) rfl ((if0 _ _).trans (teq ((lw_eq _ _).mpr (rfl : x6 = x6))).2) ?_
      show Steps p.tables e below (T98.setTop (mkF m 203 #[.val (.int x1), .val (.long x2), .second, .val (.long x3), .second, .val (.long x4), .second, .val (.long x5), .second, .val (.long x6), .second, .val (.ref b1), .val (.int (1 : Int32)), .val (.int (0 : Int32)), .val (.long (if x5 < x4 then x5 else x4)), .second, .val (.int (1 : Int32))] [])) _
      refine XS.iconst X98.here hx rfl (hb hby at_203) ?_
      show Steps p.tables e below (T98.setTop (mkF m 204 #[.val (.int x1), .val (.long x2), .second, .val (.long x3), .second, .val (.long x4), .second, .val (.long x5), .second, .val (.long x6), .second, .val (.ref b1), .val (.int (1 : Int32)), .val (.int (0 : Int32)), .val (.long (if x5 < x4 then x5 else x4)), .second, .val (.int (1 : Int32))] [(.int (1 : Int32))])) _
      refine XS.goto X98.here hx rfl (pc0 := 204) (pc' := 208) rfl (hb hby at_204) (by decide) (by decide) ?_
      show Steps p.tables e below (T98.setTop (mkF m 208 #[.val (.int x1), .val (.long x2), .second, .val (.long x3), .second, .val (.long x4), .second, .val (.long x5), .second, .val (.long x6), .second, .val (.ref b1), .val (.int (1 : Int32)), .val (.int (0 : Int32)), .val (.long (if x5 < x4 then x5 else x4)), .second, .val (.int (1 : Int32))] [(.int (1 : Int32))])) _
      refine XS.istore X98.here hx rfl (hb hby at_208) rfl (l' := #[.val (.int x1), .val (.long x2), .second, .val (.long x3), .second, .val (.long x4), .second, .val (.long x5), .second, .val (.long x6), .second, .val (.ref b1), .val (.int (1 : Int32)), .val (.int (0 : Int32)), .val (.long (if x5 < x4 then x5 else x4)), .second, .val (.int (1 : Int32))]) rfl ?_
      show Steps p.tables e below (T98.setTop (mkF m 210 #[.val (.int x1), .val (.long x2), .second, .val (.long x3), .second, .val (.long x4), .second, .val (.long x5), .second, .val (.long x6), .second, .val (.ref b1), .val (.int (1 : Int32)), .val (.int (0 : Int32)), .val (.long (if x5 < x4 then x5 else x4)), .second, .val (.int (1 : Int32))] [])) _
      refine XS.iload X98.here hx rfl (hb hby at_210) rfl ?_
      show Steps p.tables e below (T98.setTop (mkF m 212 #[.val (.int x1), .val (.long x2), .second, .val (.long x3), .second, .val (.long x4), .second, .val (.long x5), .second, .val (.long x6), .second, .val (.ref b1), .val (.int (1 : Int32)), .val (.int (0 : Int32)), .val (.long (if x5 < x4 then x5 else x4)), .second, .val (.int (1 : Int32))] [(.int (1 : Int32))])) _
      refine XS.ifNo X98.here hx rfl (hb hby at_212) rfl ((if0 _ _).trans (feq (by decide : ¬ ((1 : Int32) = (0 : Int32)))).1) ?_
      show Steps p.tables e below (T98.setTop (mkF m 215 #[.val (.int x1), .val (.long x2), .second, .val (.long x3), .second, .val (.long x4), .second, .val (.long x5), .second, .val (.long x6), .second, .val (.ref b1), .val (.int (1 : Int32)), .val (.int (0 : Int32)), .val (.long (if x5 < x4 then x5 else x4)), .second, .val (.int (1 : Int32))] [])) _
      refine XS.aload X98.here hx rfl (hb hby at_215) rfl rfl ?_
      show Steps p.tables e below (T98.setTop (mkF m 217 #[.val (.int x1), .val (.long x2), .second, .val (.long x3), .second, .val (.long x4), .second, .val (.long x5), .second, .val (.long x6), .second, .val (.ref b1), .val (.int (1 : Int32)), .val (.int (0 : Int32)), .val (.long (if x5 < x4 then x5 else x4)), .second, .val (.int (1 : Int32))] [(.ref b1)])) _
      refine st100 _ ?_
      show Steps p.tables e below (T100.setTop (mkF m 220 #[.val (.int x1), .val (.long x2), .second, .val (.long x3), .second, .val (.long x4), .second, .val (.long x5), .second, .val (.long x6), .second, .val (.ref b1), .val (.int (1 : Int32)), .val (.int (0 : Int32)), .val (.long (if x5 < x4 then x5 else x4)), .second, .val (.int (1 : Int32))] [(.ref b5_4)])) _
      refine XS.iload X100.here hx rfl (hb hby at_220) rfl ?_
      show Steps p.tables e below (T100.setTop (mkF m 222 #[.val (.int x1), .val (.long x2), .second, .val (.long x3), .second, .val (.long x4), .second, .val (.long x5), .second, .val (.long x6), .second, .val (.ref b1), .val (.int (1 : Int32)), .val (.int (0 : Int32)), .val (.long (if x5 < x4 then x5 else x4)), .second, .val (.int (1 : Int32))] [(.int (0 : Int32)), (.ref b5_4)])) _
      refine X100.laload hx (j := (0 : Int32)) (v := (.long (x6 ^^^ (-1 : Int64)))) (by rw [e100]; exact Ar101.1) (State.isArrayOf_alike hZ.alike Ar101.2.1) Ar101.2.2 hin101 (H101.at hin101 rfl) (g := (mkF m 222 #[.val (.int x1), .val (.long x2), .second, .val (.long x3), .second, .val (.long x4), .second, .val (.long x5), .second, .val (.long x6), .second, .val (.ref b1), .val (.int (1 : Int32)), .val (.int (0 : Int32)), .val (.long (if x5 < x4 then x5 else x4)), .second, .val (.int (1 : Int32))] [(.int (0 : Int32)), (.ref b5_4)])) rfl rfl (hb hby at_222) _ ?_
      show Steps p.tables e below (T100.setTop (mkF m 223 #[.val (.int x1), .val (.long x2), .second, .val (.long x3), .second, .val (.long x4), .second, .val (.long x5), .second, .val (.long x6), .second, .val (.ref b1), .val (.int (1 : Int32)), .val (.int (0 : Int32)), .val (.long (if x5 < x4 then x5 else x4)), .second, .val (.int (1 : Int32))] [(.long (x6 ^^^ (-1 : Int64)))])) _
      refine XS.lload X100.here hx rfl (hb hby at_223) rfl ?_
      show Steps p.tables e below (T100.setTop (mkF m 225 #[.val (.int x1), .val (.long x2), .second, .val (.long x3), .second, .val (.long x4), .second, .val (.long x5), .second, .val (.long x6), .second, .val (.ref b1), .val (.int (1 : Int32)), .val (.int (0 : Int32)), .val (.long (if x5 < x4 then x5 else x4)), .second, .val (.int (1 : Int32))] [(.long x6), (.long (x6 ^^^ (-1 : Int64)))])) _
      refine X100.ldc2Long hx hown (mvT hZ (hw _ (List.mem_of_getElem? (i := 69) rfl))) (g := (mkF m 225 #[.val (.int x1), .val (.long x2), .second, .val (.long x3), .second, .val (.long x4), .second, .val (.long x5), .second, .val (.long x6), .second, .val (.ref b1), .val (.int (1 : Int32)), .val (.int (0 : Int32)), .val (.long (if x5 < x4 then x5 else x4)), .second, .val (.int (1 : Int32))] [(.long x6), (.long (x6 ^^^ (-1 : Int64)))])) rfl (hb hby at_225) _ ?_
      show Steps p.tables e below (T100.setTop (mkF m 228 #[.val (.int x1), .val (.long x2), .second, .val (.long x3), .second, .val (.long x4), .second, .val (.long x5), .second, .val (.long x6), .second, .val (.ref b1), .val (.int (1 : Int32)), .val (.int (0 : Int32)), .val (.long (if x5 < x4 then x5 else x4)), .second, .val (.int (1 : Int32))] [(.long (-1 : Int64)), (.long x6), (.long (x6 ^^^ (-1 : Int64)))])) _
      refine XS.lxor X100.here hx rfl (hb hby at_228) rfl ?_
      show Steps p.tables e below (T100.setTop (mkF m 229 #[.val (.int x1), .val (.long x2), .second, .val (.long x3), .second, .val (.long x4), .second, .val (.long x5), .second, .val (.long x6), .second, .val (.ref b1), .val (.int (1 : Int32)), .val (.int (0 : Int32)), .val (.long (if x5 < x4 then x5 else x4)), .second, .val (.int (1 : Int32))] [(.long (x6 ^^^ (-1 : Int64))), (.long (x6 ^^^ (-1 : Int64)))])) _
      refine XS.lcmp X100.here hx rfl (hb hby at_229) rfl ?_
      show Steps p.tables e below (T100.setTop (mkF m 230 #[.val (.int x1), .val (.long x2), .second, .val (.long x3), .second, .val (.long x4), .second, .val (.long x5), .second, .val (.long x6), .second, .val (.ref b1), .val (.int (1 : Int32)), .val (.int (0 : Int32)), .val (.long (if x5 < x4 then x5 else x4)), .second, .val (.int (1 : Int32))] [(.int (lcmpW (x6 ^^^ (-1 : Int64)) (x6 ^^^ (-1 : Int64))))])) _
      refine XS.ifNo X100.here hx rfl (hb hby at_230) rfl ((if0 _ _).trans (teq ((lw_eq _ _).mpr (rfl : (x6 ^^^ (-1 : Int64)) = (x6 ^^^ (-1 : Int64))))).2) ?_
      show Steps p.tables e below (T100.setTop (mkF m 233 #[.val (.int x1), .val (.long x2), .second, .val (.long x3), .second, .val (.long x4), .second, .val (.long x5), .second, .val (.long x6), .second, .val (.ref b1), .val (.int (1 : Int32)), .val (.int (0 : Int32)), .val (.long (if x5 < x4 then x5 else x4)), .second, .val (.int (1 : Int32))] [])) _
      refine XS.iconst X100.here hx rfl (hb hby at_233) ?_
      show Steps p.tables e below (T100.setTop (mkF m 234 #[.val (.int x1), .val (.long x2), .second, .val (.long x3), .second, .val (.long x4), .second, .val (.long x5), .second, .val (.long x6), .second, .val (.ref b1), .val (.int (1 : Int32)), .val (.int (0 : Int32)), .val (.long (if x5 < x4 then x5 else x4)), .second, .val (.int (1 : Int32))] [(.int (1 : Int32))])) _
      refine XS.goto X100.here hx rfl (pc0 := 234) (pc' := 238) rfl (hb hby at_234) (by decide) (by decide) ?_
      show Steps p.tables e below (T100.setTop (mkF m 238 #[.val (.int x1), .val (.long x2), .second, .val (.long x3), .second, .val (.long x4), .second, .val (.long x5), .second, .val (.long x6), .second, .val (.ref b1), .val (.int (1 : Int32)), .val (.int (0 : Int32)), .val (.long (if x5 < x4 then x5 else x4)), .second, .val (.int (1 : Int32))] [(.int (1 : Int32))])) _
      refine XS.istore X100.here hx rfl (hb hby at_238) rfl (l' := #[.val (.int x1), .val (.long x2), .second, .val (.long x3), .second, .val (.long x4), .second, .val (.long x5), .second, .val (.long x6), .second, .val (.ref b1), .val (.int (1 : Int32)), .val (.int (0 : Int32)), .val (.long (if x5 < x4 then x5 else x4)), .second, .val (.int (1 : Int32))]) rfl ?_
      show Steps p.tables e below (T100.setTop (mkF m 240 #[.val (.int x1), .val (.long x2), .second, .val (.long x3), .second, .val (.long x4), .second, .val (.long x5), .second, .val (.long x6), .second, .val (.ref b1), .val (.int (1 : Int32)), .val (.int (0 : Int32)), .val (.long (if x5 < x4 then x5 else x4)), .second, .val (.int (1 : Int32))] [])) _
      refine XS.iload X100.here hx rfl (hb hby at_240) rfl ?_
      show Steps p.tables e below (T100.setTop (mkF m 242 #[.val (.int x1), .val (.long x2), .second, .val (.long x3), .second, .val (.long x4), .second, .val (.long x5), .second, .val (.long x6), .second, .val (.ref b1), .val (.int (1 : Int32)), .val (.int (0 : Int32)), .val (.long (if x5 < x4 then x5 else x4)), .second, .val (.int (1 : Int32))] [(.int (1 : Int32))])) _
      refine XS.ifNo X100.here hx rfl (hb hby at_242) rfl ((if0 _ _).trans (feq (by decide : ¬ ((1 : Int32) = (0 : Int32)))).1) ?_
      show Steps p.tables e below (T100.setTop (mkF m 245 #[.val (.int x1), .val (.long x2), .second, .val (.long x3), .second, .val (.long x4), .second, .val (.long x5), .second, .val (.long x6), .second, .val (.ref b1), .val (.int (1 : Int32)), .val (.int (0 : Int32)), .val (.long (if x5 < x4 then x5 else x4)), .second, .val (.int (1 : Int32))] [])) _
      refine XS.aload X100.here hx rfl (hb hby at_245) rfl rfl ?_
      show Steps p.tables e below (T100.setTop (mkF m 247 #[.val (.int x1), .val (.long x2), .second, .val (.long x3), .second, .val (.long x4), .second, .val (.long x5), .second, .val (.long x6), .second, .val (.ref b1), .val (.int (1 : Int32)), .val (.int (0 : Int32)), .val (.long (if x5 < x4 then x5 else x4)), .second, .val (.int (1 : Int32))] [(.ref b1)])) _
      refine st102 _ ?_
      show Steps p.tables e below (T102.setTop (mkF m 250 #[.val (.int x1), .val (.long x2), .second, .val (.long x3), .second, .val (.long x4), .second, .val (.long x5), .second, .val (.long x6), .second, .val (.ref b1), .val (.int (1 : Int32)), .val (.int (0 : Int32)), .val (.long (if x5 < x4 then x5 else x4)), .second, .val (.int (1 : Int32))] [(.ref b5_0)])) _
      refine XS.iload X102.here hx rfl (hb hby at_250) rfl ?_
      show Steps p.tables e below (T102.setTop (mkF m 252 #[.val (.int x1), .val (.long x2), .second, .val (.long x3), .second, .val (.long x4), .second, .val (.long x5), .second, .val (.long x6), .second, .val (.ref b1), .val (.int (1 : Int32)), .val (.int (0 : Int32)), .val (.long (if x5 < x4 then x5 else x4)), .second, .val (.int (1 : Int32))] [(.int (1 : Int32)), (.ref b5_0)])) _
      refine X102.laload hx (j := (1 : Int32)) (v := (.long (x6 ^^^ (5 : Int64)))) (by rw [e102]; exact Ar103.1) (State.isArrayOf_alike hZ.alike Ar103.2.1) Ar103.2.2 hin103 (H103.at hin103 rfl) (g := (mkF m 252 #[.val (.int x1), .val (.long x2), .second, .val (.long x3), .second, .val (.long x4), .second, .val (.long x5), .second, .val (.long x6), .second, .val (.ref b1), .val (.int (1 : Int32)), .val (.int (0 : Int32)), .val (.long (if x5 < x4 then x5 else x4)), .second, .val (.int (1 : Int32))] [(.int (1 : Int32)), (.ref b5_0)])) rfl rfl (hb hby at_252) _ ?_
      show Steps p.tables e below (T102.setTop (mkF m 253 #[.val (.int x1), .val (.long x2), .second, .val (.long x3), .second, .val (.long x4), .second, .val (.long x5), .second, .val (.long x6), .second, .val (.ref b1), .val (.int (1 : Int32)), .val (.int (0 : Int32)), .val (.long (if x5 < x4 then x5 else x4)), .second, .val (.int (1 : Int32))] [(.long (x6 ^^^ (5 : Int64)))])) _
      refine XS.lload X102.here hx rfl (hb hby at_253) rfl ?_
      show Steps p.tables e below (T102.setTop (mkF m 255 #[.val (.int x1), .val (.long x2), .second, .val (.long x3), .second, .val (.long x4), .second, .val (.long x5), .second, .val (.long x6), .second, .val (.ref b1), .val (.int (1 : Int32)), .val (.int (0 : Int32)), .val (.long (if x5 < x4 then x5 else x4)), .second, .val (.int (1 : Int32))] [(.long x6), (.long (x6 ^^^ (5 : Int64)))])) _
      refine X102.ldc2Long hx hown (mvT hZ (hw _ (List.mem_of_getElem? (i := 71) rfl))) (g := (mkF m 255 #[.val (.int x1), .val (.long x2), .second, .val (.long x3), .second, .val (.long x4), .second, .val (.long x5), .second, .val (.long x6), .second, .val (.ref b1), .val (.int (1 : Int32)), .val (.int (0 : Int32)), .val (.long (if x5 < x4 then x5 else x4)), .second, .val (.int (1 : Int32))] [(.long x6), (.long (x6 ^^^ (5 : Int64)))])) rfl (hb hby at_255) _ ?_
      show Steps p.tables e below (T102.setTop (mkF m 258 #[.val (.int x1), .val (.long x2), .second, .val (.long x3), .second, .val (.long x4), .second, .val (.long x5), .second, .val (.long x6), .second, .val (.ref b1), .val (.int (1 : Int32)), .val (.int (0 : Int32)), .val (.long (if x5 < x4 then x5 else x4)), .second, .val (.int (1 : Int32))] [(.long (5 : Int64)), (.long x6), (.long (x6 ^^^ (5 : Int64)))])) _
      refine XS.lxor X102.here hx rfl (hb hby at_258) rfl ?_
      show Steps p.tables e below (T102.setTop (mkF m 259 #[.val (.int x1), .val (.long x2), .second, .val (.long x3), .second, .val (.long x4), .second, .val (.long x5), .second, .val (.long x6), .second, .val (.ref b1), .val (.int (1 : Int32)), .val (.int (0 : Int32)), .val (.long (if x5 < x4 then x5 else x4)), .second, .val (.int (1 : Int32))] [(.long (x6 ^^^ (5 : Int64))), (.long (x6 ^^^ (5 : Int64)))])) _
      refine XS.lcmp X102.here hx rfl (hb hby at_259) rfl ?_
      show Steps p.tables e below (T102.setTop (mkF m 260 #[.val (.int x1), .val (.long x2), .second, .val (.long x3), .second, .val (.long x4), .second, .val (.long x5), .second, .val (.long x6), .second, .val (.ref b1), .val (.int (1 : Int32)), .val (.int (0 : Int32)), .val (.long (if x5 < x4 then x5 else x4)), .second, .val (.int (1 : Int32))] [(.int (lcmpW (x6 ^^^ (5 : Int64)) (x6 ^^^ (5 : Int64))))])) _
      refine XS.ifNo X102.here hx rfl (hb hby at_260) rfl ((if0 _ _).trans (teq ((lw_eq _ _).mpr (rfl : (x6 ^^^ (5 : Int64)) = (x6 ^^^ (5 : Int64))))).2) ?_
      show Steps p.tables e below (T102.setTop (mkF m 263 #[.val (.int x1), .val (.long x2), .second, .val (.long x3), .second, .val (.long x4), .second, .val (.long x5), .second, .val (.long x6), .second, .val (.ref b1), .val (.int (1 : Int32)), .val (.int (0 : Int32)), .val (.long (if x5 < x4 then x5 else x4)), .second, .val (.int (1 : Int32))] [])) _
      refine XS.iconst X102.here hx rfl (hb hby at_263) ?_
      show Steps p.tables e below (T102.setTop (mkF m 264 #[.val (.int x1), .val (.long x2), .second, .val (.long x3), .second, .val (.long x4), .second, .val (.long x5), .second, .val (.long x6), .second, .val (.ref b1), .val (.int (1 : Int32)), .val (.int (0 : Int32)), .val (.long (if x5 < x4 then x5 else x4)), .second, .val (.int (1 : Int32))] [(.int (1 : Int32))])) _
      refine XS.goto X102.here hx rfl (pc0 := 264) (pc' := 268) rfl (hb hby at_264) (by decide) (by decide) ?_
      show Steps p.tables e below (T102.setTop (mkF m 268 #[.val (.int x1), .val (.long x2), .second, .val (.long x3), .second, .val (.long x4), .second, .val (.long x5), .second, .val (.long x6), .second, .val (.ref b1), .val (.int (1 : Int32)), .val (.int (0 : Int32)), .val (.long (if x5 < x4 then x5 else x4)), .second, .val (.int (1 : Int32))] [(.int (1 : Int32))])) _
      refine XS.istore X102.here hx rfl (hb hby at_268) rfl (l' := #[.val (.int x1), .val (.long x2), .second, .val (.long x3), .second, .val (.long x4), .second, .val (.long x5), .second, .val (.long x6), .second, .val (.ref b1), .val (.int (1 : Int32)), .val (.int (0 : Int32)), .val (.long (if x5 < x4 then x5 else x4)), .second, .val (.int (1 : Int32))]) rfl ?_
      show Steps p.tables e below (T102.setTop (mkF m 270 #[.val (.int x1), .val (.long x2), .second, .val (.long x3), .second, .val (.long x4), .second, .val (.long x5), .second, .val (.long x6), .second, .val (.ref b1), .val (.int (1 : Int32)), .val (.int (0 : Int32)), .val (.long (if x5 < x4 then x5 else x4)), .second, .val (.int (1 : Int32))] [])) _
      refine XS.iload X102.here hx rfl (hb hby at_270) rfl ?_
      show Steps p.tables e below (T102.setTop (mkF m 272 #[.val (.int x1), .val (.long x2), .second, .val (.long x3), .second, .val (.long x4), .second, .val (.long x5), .second, .val (.long x6), .second, .val (.ref b1), .val (.int (1 : Int32)), .val (.int (0 : Int32)), .val (.long (if x5 < x4 then x5 else x4)), .second, .val (.int (1 : Int32))] [(.int (1 : Int32))])) _
      refine XS.ifNo X102.here hx rfl (hb hby at_272) rfl ((if0 _ _).trans (feq (by decide : ¬ ((1 : Int32) = (0 : Int32)))).1) ?_
      show Steps p.tables e below (T102.setTop (mkF m 275 #[.val (.int x1), .val (.long x2), .second, .val (.long x3), .second, .val (.long x4), .second, .val (.long x5), .second, .val (.long x6), .second, .val (.ref b1), .val (.int (1 : Int32)), .val (.int (0 : Int32)), .val (.long (if x5 < x4 then x5 else x4)), .second, .val (.int (1 : Int32))] [])) _
      refine XS.aload X102.here hx rfl (hb hby at_275) rfl rfl ?_
      show Steps p.tables e below (T102.setTop (mkF m 277 #[.val (.int x1), .val (.long x2), .second, .val (.long x3), .second, .val (.long x4), .second, .val (.long x5), .second, .val (.long x6), .second, .val (.ref b1), .val (.int (1 : Int32)), .val (.int (0 : Int32)), .val (.long (if x5 < x4 then x5 else x4)), .second, .val (.int (1 : Int32))] [(.ref b1)])) _
      refine st104 _ ?_
      show Steps p.tables e below (T104.setTop (mkF m 280 #[.val (.int x1), .val (.long x2), .second, .val (.long x3), .second, .val (.long x4), .second, .val (.long x5), .second, .val (.long x6), .second, .val (.ref b1), .val (.int (1 : Int32)), .val (.int (0 : Int32)), .val (.long (if x5 < x4 then x5 else x4)), .second, .val (.int (1 : Int32))] [(.ref b5_2)])) _
      refine XS.iload X104.here hx rfl (hb hby at_280) rfl ?_
      show Steps p.tables e below (T104.setTop (mkF m 282 #[.val (.int x1), .val (.long x2), .second, .val (.long x3), .second, .val (.long x4), .second, .val (.long x5), .second, .val (.long x6), .second, .val (.ref b1), .val (.int (1 : Int32)), .val (.int (0 : Int32)), .val (.long (if x5 < x4 then x5 else x4)), .second, .val (.int (1 : Int32))] [(.int (1 : Int32)), (.ref b5_2)])) _
      refine X104.laload hx (j := (1 : Int32)) (v := (.long (x6 ^^^ (9 : Int64)))) (by rw [e104]; exact Ar105.1) (State.isArrayOf_alike hZ.alike Ar105.2.1) Ar105.2.2 hin105 (H105.at hin105 rfl) (g := (mkF m 282 #[.val (.int x1), .val (.long x2), .second, .val (.long x3), .second, .val (.long x4), .second, .val (.long x5), .second, .val (.long x6), .second, .val (.ref b1), .val (.int (1 : Int32)), .val (.int (0 : Int32)), .val (.long (if x5 < x4 then x5 else x4)), .second, .val (.int (1 : Int32))] [(.int (1 : Int32)), (.ref b5_2)])) rfl rfl (hb hby at_282) _ ?_
      show Steps p.tables e below (T104.setTop (mkF m 283 #[.val (.int x1), .val (.long x2), .second, .val (.long x3), .second, .val (.long x4), .second, .val (.long x5), .second, .val (.long x6), .second, .val (.ref b1), .val (.int (1 : Int32)), .val (.int (0 : Int32)), .val (.long (if x5 < x4 then x5 else x4)), .second, .val (.int (1 : Int32))] [(.long (x6 ^^^ (9 : Int64)))])) _
      refine XS.lload X104.here hx rfl (hb hby at_283) rfl ?_
      show Steps p.tables e below (T104.setTop (mkF m 285 #[.val (.int x1), .val (.long x2), .second, .val (.long x3), .second, .val (.long x4), .second, .val (.long x5), .second, .val (.long x6), .second, .val (.ref b1), .val (.int (1 : Int32)), .val (.int (0 : Int32)), .val (.long (if x5 < x4 then x5 else x4)), .second, .val (.int (1 : Int32))] [(.long x6), (.long (x6 ^^^ (9 : Int64)))])) _
      refine X104.ldc2Long hx hown (mvT hZ (hw _ (List.mem_of_getElem? (i := 73) rfl))) (g := (mkF m 285 #[.val (.int x1), .val (.long x2), .second, .val (.long x3), .second, .val (.long x4), .second, .val (.long x5), .second, .val (.long x6), .second, .val (.ref b1), .val (.int (1 : Int32)), .val (.int (0 : Int32)), .val (.long (if x5 < x4 then x5 else x4)), .second, .val (.int (1 : Int32))] [(.long x6), (.long (x6 ^^^ (9 : Int64)))])) rfl (hb hby at_285) _ ?_
      show Steps p.tables e below (T104.setTop (mkF m 288 #[.val (.int x1), .val (.long x2), .second, .val (.long x3), .second, .val (.long x4), .second, .val (.long x5), .second, .val (.long x6), .second, .val (.ref b1), .val (.int (1 : Int32)), .val (.int (0 : Int32)), .val (.long (if x5 < x4 then x5 else x4)), .second, .val (.int (1 : Int32))] [(.long (9 : Int64)), (.long x6), (.long (x6 ^^^ (9 : Int64)))])) _
      refine XS.lxor X104.here hx rfl (hb hby at_288) rfl ?_
      show Steps p.tables e below (T104.setTop (mkF m 289 #[.val (.int x1), .val (.long x2), .second, .val (.long x3), .second, .val (.long x4), .second, .val (.long x5), .second, .val (.long x6), .second, .val (.ref b1), .val (.int (1 : Int32)), .val (.int (0 : Int32)), .val (.long (if x5 < x4 then x5 else x4)), .second, .val (.int (1 : Int32))] [(.long (x6 ^^^ (9 : Int64))), (.long (x6 ^^^ (9 : Int64)))])) _
      refine XS.lcmp X104.here hx rfl (hb hby at_289) rfl ?_
      show Steps p.tables e below (T104.setTop (mkF m 290 #[.val (.int x1), .val (.long x2), .second, .val (.long x3), .second, .val (.long x4), .second, .val (.long x5), .second, .val (.long x6), .second, .val (.ref b1), .val (.int (1 : Int32)), .val (.int (0 : Int32)), .val (.long (if x5 < x4 then x5 else x4)), .second, .val (.int (1 : Int32))] [(.int (lcmpW (x6 ^^^ (9 : Int64)) (x6 ^^^ (9 : Int64))))])) _
      refine XS.ifNo X104.here hx rfl (hb hby at_290) rfl ((if0 _ _).trans (teq ((lw_eq _ _).mpr (rfl : (x6 ^^^ (9 : Int64)) = (x6 ^^^ (9 : Int64))))).2) ?_
      show Steps p.tables e below (T104.setTop (mkF m 293 #[.val (.int x1), .val (.long x2), .second, .val (.long x3), .second, .val (.long x4), .second, .val (.long x5), .second, .val (.long x6), .second, .val (.ref b1), .val (.int (1 : Int32)), .val (.int (0 : Int32)), .val (.long (if x5 < x4 then x5 else x4)), .second, .val (.int (1 : Int32))] [])) _
      refine XS.iconst X104.here hx rfl (hb hby at_293) ?_
      show Steps p.tables e below (T104.setTop (mkF m 294 #[.val (.int x1), .val (.long x2), .second, .val (.long x3), .second, .val (.long x4), .second, .val (.long x5), .second, .val (.long x6), .second, .val (.ref b1), .val (.int (1 : Int32)), .val (.int (0 : Int32)), .val (.long (if x5 < x4 then x5 else x4)), .second, .val (.int (1 : Int32))] [(.int (1 : Int32))])) _
      refine XS.goto X104.here hx rfl (pc0 := 294) (pc' := 298) rfl (hb hby at_294) (by decide) (by decide) ?_
      show Steps p.tables e below (T104.setTop (mkF m 298 #[.val (.int x1), .val (.long x2), .second, .val (.long x3), .second, .val (.long x4), .second, .val (.long x5), .second, .val (.long x6), .second, .val (.ref b1), .val (.int (1 : Int32)), .val (.int (0 : Int32)), .val (.long (if x5 < x4 then x5 else x4)), .second, .val (.int (1 : Int32))] [(.int (1 : Int32))])) _
      refine XS.istore X104.here hx rfl (hb hby at_298) rfl (l' := #[.val (.int x1), .val (.long x2), .second, .val (.long x3), .second, .val (.long x4), .second, .val (.long x5), .second, .val (.long x6), .second, .val (.ref b1), .val (.int (1 : Int32)), .val (.int (0 : Int32)), .val (.long (if x5 < x4 then x5 else x4)), .second, .val (.int (1 : Int32))]) rfl ?_
      show Steps p.tables e below (T104.setTop (mkF m 300 #[.val (.int x1), .val (.long x2), .second, .val (.long x3), .second, .val (.long x4), .second, .val (.long x5), .second, .val (.long x6), .second, .val (.ref b1), .val (.int (1 : Int32)), .val (.int (0 : Int32)), .val (.long (if x5 < x4 then x5 else x4)), .second, .val (.int (1 : Int32))] [])) _
      refine XS.iload X104.here hx rfl (hb hby at_300) rfl ?_
      show Steps p.tables e below (T104.setTop (mkF m 302 #[.val (.int x1), .val (.long x2), .second, .val (.long x3), .second, .val (.long x4), .second, .val (.long x5), .second, .val (.long x6), .second, .val (.ref b1), .val (.int (1 : Int32)), .val (.int (0 : Int32)), .val (.long (if x5 < x4 then x5 else x4)), .second, .val (.int (1 : Int32))] [(.int (1 : Int32))])) _
      refine XS.ifNo X104.here hx rfl (hb hby at_302) rfl ((if0 _ _).trans (feq (by decide : ¬ ((1 : Int32) = (0 : Int32)))).1) ?_
      show Steps p.tables e below (T104.setTop (mkF m 305 #[.val (.int x1), .val (.long x2), .second, .val (.long x3), .second, .val (.long x4), .second, .val (.long x5), .second, .val (.long x6), .second, .val (.ref b1), .val (.int (1 : Int32)), .val (.int (0 : Int32)), .val (.long (if x5 < x4 then x5 else x4)), .second, .val (.int (1 : Int32))] [])) _
      refine XS.aload X104.here hx rfl (hb hby at_305) rfl rfl ?_
      show Steps p.tables e below (T104.setTop (mkF m 307 #[.val (.int x1), .val (.long x2), .second, .val (.long x3), .second, .val (.long x4), .second, .val (.long x5), .second, .val (.long x6), .second, .val (.ref b1), .val (.int (1 : Int32)), .val (.int (0 : Int32)), .val (.long (if x5 < x4 then x5 else x4)), .second, .val (.int (1 : Int32))] [(.ref b1)])) _
      refine st106 _ ?_
      show Steps p.tables e below (T106.setTop (mkF m 310 #[.val (.int x1), .val (.long x2), .second, .val (.long x3), .second, .val (.long x4), .second, .val (.long x5), .second, .val (.long x6), .second, .val (.ref b1), .val (.int (1 : Int32)), .val (.int (0 : Int32)), .val (.long (if x5 < x4 then x5 else x4)), .second, .val (.int (1 : Int32))] [(.ref b5_3)])) _
      refine XS.iload X106.here hx rfl (hb hby at_310) rfl ?_
      show Steps p.tables e below (T106.setTop (mkF m 312 #[.val (.int x1), .val (.long x2), .second, .val (.long x3), .second, .val (.long x4), .second, .val (.long x5), .second, .val (.long x6), .second, .val (.ref b1), .val (.int (1 : Int32)), .val (.int (0 : Int32)), .val (.long (if x5 < x4 then x5 else x4)), .second, .val (.int (1 : Int32))] [(.int (1 : Int32)), (.ref b5_3)])) _
      refine X106.laload hx (j := (1 : Int32)) (v := (.long (x2 ^^^ (-1 : Int64)))) (by rw [e106]; exact Ar107.1) (State.isArrayOf_alike hZ.alike Ar107.2.1) Ar107.2.2 hin107 (H107.at hin107 rfl) (g := (mkF m 312 #[.val (.int x1), .val (.long x2), .second, .val (.long x3), .second, .val (.long x4), .second, .val (.long x5), .second, .val (.long x6), .second, .val (.ref b1), .val (.int (1 : Int32)), .val (.int (0 : Int32)), .val (.long (if x5 < x4 then x5 else x4)), .second, .val (.int (1 : Int32))] [(.int (1 : Int32)), (.ref b5_3)])) rfl rfl (hb hby at_312) _ ?_
      show Steps p.tables e below (T106.setTop (mkF m 313 #[.val (.int x1), .val (.long x2), .second, .val (.long x3), .second, .val (.long x4), .second, .val (.long x5), .second, .val (.long x6), .second, .val (.ref b1), .val (.int (1 : Int32)), .val (.int (0 : Int32)), .val (.long (if x5 < x4 then x5 else x4)), .second, .val (.int (1 : Int32))] [(.long (x2 ^^^ (-1 : Int64)))])) _
      refine XS.lloadN X106.here hx rfl (hb hby at_313) rfl ?_
      show Steps p.tables e below (T106.setTop (mkF m 314 #[.val (.int x1), .val (.long x2), .second, .val (.long x3), .second, .val (.long x4), .second, .val (.long x5), .second, .val (.long x6), .second, .val (.ref b1), .val (.int (1 : Int32)), .val (.int (0 : Int32)), .val (.long (if x5 < x4 then x5 else x4)), .second, .val (.int (1 : Int32))] [(.long x2), (.long (x2 ^^^ (-1 : Int64)))])) _
      refine X106.ldc2Long hx hown (mvT hZ (hw _ (List.mem_of_getElem? (i := 69) rfl))) (g := (mkF m 314 #[.val (.int x1), .val (.long x2), .second, .val (.long x3), .second, .val (.long x4), .second, .val (.long x5), .second, .val (.long x6), .second, .val (.ref b1), .val (.int (1 : Int32)), .val (.int (0 : Int32)), .val (.long (if x5 < x4 then x5 else x4)), .second, .val (.int (1 : Int32))] [(.long x2), (.long (x2 ^^^ (-1 : Int64)))])) rfl (hb hby at_314) _ ?_
      show Steps p.tables e below (T106.setTop (mkF m 317 #[.val (.int x1), .val (.long x2), .second, .val (.long x3), .second, .val (.long x4), .second, .val (.long x5), .second, .val (.long x6), .second, .val (.ref b1), .val (.int (1 : Int32)), .val (.int (0 : Int32)), .val (.long (if x5 < x4 then x5 else x4)), .second, .val (.int (1 : Int32))] [(.long (-1 : Int64)), (.long x2), (.long (x2 ^^^ (-1 : Int64)))])) _
      refine XS.lxor X106.here hx rfl (hb hby at_317) rfl ?_
      show Steps p.tables e below (T106.setTop (mkF m 318 #[.val (.int x1), .val (.long x2), .second, .val (.long x3), .second, .val (.long x4), .second, .val (.long x5), .second, .val (.long x6), .second, .val (.ref b1), .val (.int (1 : Int32)), .val (.int (0 : Int32)), .val (.long (if x5 < x4 then x5 else x4)), .second, .val (.int (1 : Int32))] [(.long (x2 ^^^ (-1 : Int64))), (.long (x2 ^^^ (-1 : Int64)))])) _
      refine XS.lcmp X106.here hx rfl (hb hby at_318) rfl ?_
      show Steps p.tables e below (T106.setTop (mkF m 319 #[.val (.int x1), .val (.long x2), .second, .val (.long x3), .second, .val (.long x4), .second, .val (.long x5), .second, .val (.long x6), .second, .val (.ref b1), .val (.int (1 : Int32)), .val (.int (0 : Int32)), .val (.long (if x5 < x4 then x5 else x4)), .second, .val (.int (1 : Int32))] [(.int (lcmpW (x2 ^^^ (-1 : Int64)) (x2 ^^^ (-1 : Int64))))])) _
      refine XS.ifNo X106.here hx rfl (hb hby at_319) rfl ((if0 _ _).trans (teq ((lw_eq _ _).mpr (rfl : (x2 ^^^ (-1 : Int64)) = (x2 ^^^ (-1 : Int64))))).2) ?_
      show Steps p.tables e below (T106.setTop (mkF m 322 #[.val (.int x1), .val (.long x2), .second, .val (.long x3), .second, .val (.long x4), .second, .val (.long x5), .second, .val (.long x6), .second, .val (.ref b1), .val (.int (1 : Int32)), .val (.int (0 : Int32)), .val (.long (if x5 < x4 then x5 else x4)), .second, .val (.int (1 : Int32))] [])) _
      refine XS.iconst X106.here hx rfl (hb hby at_322) ?_
      show Steps p.tables e below (T106.setTop (mkF m 323 #[.val (.int x1), .val (.long x2), .second, .val (.long x3), .second, .val (.long x4), .second, .val (.long x5), .second, .val (.long x6), .second, .val (.ref b1), .val (.int (1 : Int32)), .val (.int (0 : Int32)), .val (.long (if x5 < x4 then x5 else x4)), .second, .val (.int (1 : Int32))] [(.int (1 : Int32))])) _
      refine XS.goto X106.here hx rfl (pc0 := 323) (pc' := 327) rfl (hb hby at_323) (by decide) (by decide) ?_
      show Steps p.tables e below (T106.setTop (mkF m 327 #[.val (.int x1), .val (.long x2), .second, .val (.long x3), .second, .val (.long x4), .second, .val (.long x5), .second, .val (.long x6), .second, .val (.ref b1), .val (.int (1 : Int32)), .val (.int (0 : Int32)), .val (.long (if x5 < x4 then x5 else x4)), .second, .val (.int (1 : Int32))] [(.int (1 : Int32))])) _
      refine XS.istore X106.here hx rfl (hb hby at_327) rfl (l' := #[.val (.int x1), .val (.long x2), .second, .val (.long x3), .second, .val (.long x4), .second, .val (.long x5), .second, .val (.long x6), .second, .val (.ref b1), .val (.int (1 : Int32)), .val (.int (0 : Int32)), .val (.long (if x5 < x4 then x5 else x4)), .second, .val (.int (1 : Int32))]) rfl ?_
      show Steps p.tables e below (T106.setTop (mkF m 329 #[.val (.int x1), .val (.long x2), .second, .val (.long x3), .second, .val (.long x4), .second, .val (.long x5), .second, .val (.long x6), .second, .val (.ref b1), .val (.int (1 : Int32)), .val (.int (0 : Int32)), .val (.long (if x5 < x4 then x5 else x4)), .second, .val (.int (1 : Int32))] [])) _
      refine XS.iload X106.here hx rfl (hb hby at_329) rfl ?_
      show Steps p.tables e below (T106.setTop (mkF m 331 #[.val (.int x1), .val (.long x2), .second, .val (.long x3), .second, .val (.long x4), .second, .val (.long x5), .second, .val (.long x6), .second, .val (.ref b1), .val (.int (1 : Int32)), .val (.int (0 : Int32)), .val (.long (if x5 < x4 then x5 else x4)), .second, .val (.int (1 : Int32))] [(.int (1 : Int32))])) _
      refine XS.ifNo X106.here hx rfl (hb hby at_331) rfl ((if0 _ _).trans (feq (by decide : ¬ ((1 : Int32) = (0 : Int32)))).1) ?_
      show Steps p.tables e below (T106.setTop (mkF m 334 #[.val (.int x1), .val (.long x2), .second, .val (.long x3), .second, .val (.long x4), .second, .val (.long x5), .second, .val (.long x6), .second, .val (.ref b1), .val (.int (1 : Int32)), .val (.int (0 : Int32)), .val (.long (if x5 < x4 then x5 else x4)), .second, .val (.int (1 : Int32))] [])) _
      refine XS.aload X106.here hx rfl (hb hby at_334) rfl rfl ?_
      show Steps p.tables e below (T106.setTop (mkF m 336 #[.val (.int x1), .val (.long x2), .second, .val (.long x3), .second, .val (.long x4), .second, .val (.long x5), .second, .val (.long x6), .second, .val (.ref b1), .val (.int (1 : Int32)), .val (.int (0 : Int32)), .val (.long (if x5 < x4 then x5 else x4)), .second, .val (.int (1 : Int32))] [(.ref b1)])) _
      refine st108 _ ?_
      show Steps p.tables e below (T108.setTop (mkF m 339 #[.val (.int x1), .val (.long x2), .second, .val (.long x3), .second, .val (.long x4), .second, .val (.long x5), .second, .val (.long x6), .second, .val (.ref b1), .val (.int (1 : Int32)), .val (.int (0 : Int32)), .val (.long (if x5 < x4 then x5 else x4)), .second, .val (.int (1 : Int32))] [(.ref b5_0)])) _
      refine XS.iload X108.here hx rfl (hb hby at_339) rfl ?_
      show Steps p.tables e below (T108.setTop (mkF m 341 #[.val (.int x1), .val (.long x2), .second, .val (.long x3), .second, .val (.long x4), .second, .val (.long x5), .second, .val (.long x6), .second, .val (.ref b1), .val (.int (1 : Int32)), .val (.int (0 : Int32)), .val (.long (if x5 < x4 then x5 else x4)), .second, .val (.int (1 : Int32))] [(.int (0 : Int32)), (.ref b5_0)])) _
      refine X108.laload hx (j := (0 : Int32)) (v := (.long (0 : Int64))) (by rw [e108]; exact Ar109.1) (State.isArrayOf_alike hZ.alike Ar109.2.1) Ar109.2.2 hin109 (H109.at hin109 rfl) (g := (mkF m 341 #[.val (.int x1), .val (.long x2), .second, .val (.long x3), .second, .val (.long x4), .second, .val (.long x5), .second, .val (.long x6), .second, .val (.ref b1), .val (.int (1 : Int32)), .val (.int (0 : Int32)), .val (.long (if x5 < x4 then x5 else x4)), .second, .val (.int (1 : Int32))] [(.int (0 : Int32)), (.ref b5_0)])) rfl rfl (hb hby at_341) _ ?_
      show Steps p.tables e below (T108.setTop (mkF m 342 #[.val (.int x1), .val (.long x2), .second, .val (.long x3), .second, .val (.long x4), .second, .val (.long x5), .second, .val (.long x6), .second, .val (.ref b1), .val (.int (1 : Int32)), .val (.int (0 : Int32)), .val (.long (if x5 < x4 then x5 else x4)), .second, .val (.int (1 : Int32))] [(.long (0 : Int64))])) _
      refine XS.lconst X108.here hx rfl (hb hby at_342) ?_
      show Steps p.tables e below (T108.setTop (mkF m 343 #[.val (.int x1), .val (.long x2), .second, .val (.long x3), .second, .val (.long x4), .second, .val (.long x5), .second, .val (.long x6), .second, .val (.ref b1), .val (.int (1 : Int32)), .val (.int (0 : Int32)), .val (.long (if x5 < x4 then x5 else x4)), .second, .val (.int (1 : Int32))] [(.long (0 : Int64)), (.long (0 : Int64))])) _
      refine XS.lcmp X108.here hx rfl (hb hby at_343) rfl ?_
      show Steps p.tables e below (T108.setTop (mkF m 344 #[.val (.int x1), .val (.long x2), .second, .val (.long x3), .second, .val (.long x4), .second, .val (.long x5), .second, .val (.long x6), .second, .val (.ref b1), .val (.int (1 : Int32)), .val (.int (0 : Int32)), .val (.long (if x5 < x4 then x5 else x4)), .second, .val (.int (1 : Int32))] [(.int (lcmpW (0 : Int64) (0 : Int64)))])) _
      refine XS.ifNo X108.here hx rfl (hb hby at_344) rfl ((if0 _ _).trans (teq ((lw_eq _ _).mpr (by decide : (0 : Int64) = (0 : Int64)))).2) ?_
      show Steps p.tables e below (T108.setTop (mkF m 347 #[.val (.int x1), .val (.long x2), .second, .val (.long x3), .second, .val (.long x4), .second, .val (.long x5), .second, .val (.long x6), .second, .val (.ref b1), .val (.int (1 : Int32)), .val (.int (0 : Int32)), .val (.long (if x5 < x4 then x5 else x4)), .second, .val (.int (1 : Int32))] [])) _
      refine XS.iconst X108.here hx rfl (hb hby at_347) ?_
      show Steps p.tables e below (T108.setTop (mkF m 348 #[.val (.int x1), .val (.long x2), .second, .val (.long x3), .second, .val (.long x4), .second, .val (.long x5), .second, .val (.long x6), .second, .val (.ref b1), .val (.int (1 : Int32)), .val (.int (0 : Int32)), .val (.long (if x5 < x4 then x5 else x4)), .second, .val (.int (1 : Int32))] [(.int (1 : Int32))])) _
      refine XS.goto X108.here hx rfl (pc0 := 348) (pc' := 352) rfl (hb hby at_348) (by decide) (by decide) ?_
      show Steps p.tables e below (T108.setTop (mkF m 352 #[.val (.int x1), .val (.long x2), .second, .val (.long x3), .second, .val (.long x4), .second, .val (.long x5), .second, .val (.long x6), .second, .val (.ref b1), .val (.int (1 : Int32)), .val (.int (0 : Int32)), .val (.long (if x5 < x4 then x5 else x4)), .second, .val (.int (1 : Int32))] [(.int (1 : Int32))])) _
      refine XS.istore X108.here hx rfl (hb hby at_352) rfl (l' := #[.val (.int x1), .val (.long x2), .second, .val (.long x3), .second, .val (.long x4), .second, .val (.long x5), .second, .val (.long x6), .second, .val (.ref b1), .val (.int (1 : Int32)), .val (.int (0 : Int32)), .val (.long (if x5 < x4 then x5 else x4)), .second, .val (.int (1 : Int32))]) rfl ?_
      show Steps p.tables e below (T108.setTop (mkF m 354 #[.val (.int x1), .val (.long x2), .second, .val (.long x3), .second, .val (.long x4), .second, .val (.long x5), .second, .val (.long x6), .second, .val (.ref b1), .val (.int (1 : Int32)), .val (.int (0 : Int32)), .val (.long (if x5 < x4 then x5 else x4)), .second, .val (.int (1 : Int32))] [])) _
      refine XS.iload X108.here hx rfl (hb hby at_354) rfl ?_
      show Steps p.tables e below (T108.setTop (mkF m 356 #[.val (.int x1), .val (.long x2), .second, .val (.long x3), .second, .val (.long x4), .second, .val (.long x5), .second, .val (.long x6), .second, .val (.ref b1), .val (.int (1 : Int32)), .val (.int (0 : Int32)), .val (.long (if x5 < x4 then x5 else x4)), .second, .val (.int (1 : Int32))] [(.int (1 : Int32))])) _
      refine XS.ifNo X108.here hx rfl (hb hby at_356) rfl ((if0 _ _).trans (feq (by decide : ¬ ((1 : Int32) = (0 : Int32)))).1) ?_
      show Steps p.tables e below (T108.setTop (mkF m 359 #[.val (.int x1), .val (.long x2), .second, .val (.long x3), .second, .val (.long x4), .second, .val (.long x5), .second, .val (.long x6), .second, .val (.ref b1), .val (.int (1 : Int32)), .val (.int (0 : Int32)), .val (.long (if x5 < x4 then x5 else x4)), .second, .val (.int (1 : Int32))] [])) _
      refine XS.aload X108.here hx rfl (hb hby at_359) rfl rfl ?_
      show Steps p.tables e below (T108.setTop (mkF m 361 #[.val (.int x1), .val (.long x2), .second, .val (.long x3), .second, .val (.long x4), .second, .val (.long x5), .second, .val (.long x6), .second, .val (.ref b1), .val (.int (1 : Int32)), .val (.int (0 : Int32)), .val (.long (if x5 < x4 then x5 else x4)), .second, .val (.int (1 : Int32))] [(.ref b1)])) _
      refine st110 _ ?_
      show Steps p.tables e below (T110.setTop (mkF m 364 #[.val (.int x1), .val (.long x2), .second, .val (.long x3), .second, .val (.long x4), .second, .val (.long x5), .second, .val (.long x6), .second, .val (.ref b1), .val (.int (1 : Int32)), .val (.int (0 : Int32)), .val (.long (if x5 < x4 then x5 else x4)), .second, .val (.int (1 : Int32))] [(.ref b5_2)])) _
      refine XS.iload X110.here hx rfl (hb hby at_364) rfl ?_
      show Steps p.tables e below (T110.setTop (mkF m 366 #[.val (.int x1), .val (.long x2), .second, .val (.long x3), .second, .val (.long x4), .second, .val (.long x5), .second, .val (.long x6), .second, .val (.ref b1), .val (.int (1 : Int32)), .val (.int (0 : Int32)), .val (.long (if x5 < x4 then x5 else x4)), .second, .val (.int (1 : Int32))] [(.int (0 : Int32)), (.ref b5_2)])) _
      refine X110.laload hx (j := (0 : Int32)) (v := (.long (0 : Int64))) (by rw [e110]; exact Ar111.1) (State.isArrayOf_alike hZ.alike Ar111.2.1) Ar111.2.2 hin111 (H111.at hin111 rfl) (g := (mkF m 366 #[.val (.int x1), .val (.long x2), .second, .val (.long x3), .second, .val (.long x4), .second, .val (.long x5), .second, .val (.long x6), .second, .val (.ref b1), .val (.int (1 : Int32)), .val (.int (0 : Int32)), .val (.long (if x5 < x4 then x5 else x4)), .second, .val (.int (1 : Int32))] [(.int (0 : Int32)), (.ref b5_2)])) rfl rfl (hb hby at_366) _ ?_
      show Steps p.tables e below (T110.setTop (mkF m 367 #[.val (.int x1), .val (.long x2), .second, .val (.long x3), .second, .val (.long x4), .second, .val (.long x5), .second, .val (.long x6), .second, .val (.ref b1), .val (.int (1 : Int32)), .val (.int (0 : Int32)), .val (.long (if x5 < x4 then x5 else x4)), .second, .val (.int (1 : Int32))] [(.long (0 : Int64))])) _
      refine XS.lconst X110.here hx rfl (hb hby at_367) ?_
      show Steps p.tables e below (T110.setTop (mkF m 368 #[.val (.int x1), .val (.long x2), .second, .val (.long x3), .second, .val (.long x4), .second, .val (.long x5), .second, .val (.long x6), .second, .val (.ref b1), .val (.int (1 : Int32)), .val (.int (0 : Int32)), .val (.long (if x5 < x4 then x5 else x4)), .second, .val (.int (1 : Int32))] [(.long (0 : Int64)), (.long (0 : Int64))])) _
      refine XS.lcmp X110.here hx rfl (hb hby at_368) rfl ?_
      show Steps p.tables e below (T110.setTop (mkF m 369 #[.val (.int x1), .val (.long x2), .second, .val (.long x3), .second, .val (.long x4), .second, .val (.long x5), .second, .val (.long x6), .second, .val (.ref b1), .val (.int (1 : Int32)), .val (.int (0 : Int32)), .val (.long (if x5 < x4 then x5 else x4)), .second, .val (.int (1 : Int32))] [(.int (lcmpW (0 : Int64) (0 : Int64)))])) _
      refine XS.ifNo X110.here hx rfl (hb hby at_369) rfl ((if0 _ _).trans (teq ((lw_eq _ _).mpr (by decide : (0 : Int64) = (0 : Int64)))).2) ?_
      show Steps p.tables e below (T110.setTop (mkF m 372 #[.val (.int x1), .val (.long x2), .second, .val (.long x3), .second, .val (.long x4), .second, .val (.long x5), .second, .val (.long x6), .second, .val (.ref b1), .val (.int (1 : Int32)), .val (.int (0 : Int32)), .val (.long (if x5 < x4 then x5 else x4)), .second, .val (.int (1 : Int32))] [])) _
      refine XS.iconst X110.here hx rfl (hb hby at_372) ?_
      show Steps p.tables e below (T110.setTop (mkF m 373 #[.val (.int x1), .val (.long x2), .second, .val (.long x3), .second, .val (.long x4), .second, .val (.long x5), .second, .val (.long x6), .second, .val (.ref b1), .val (.int (1 : Int32)), .val (.int (0 : Int32)), .val (.long (if x5 < x4 then x5 else x4)), .second, .val (.int (1 : Int32))] [(.int (1 : Int32))])) _
      refine XS.goto X110.here hx rfl (pc0 := 373) (pc' := 377) rfl (hb hby at_373) (by decide) (by decide) ?_
      show Steps p.tables e below (T110.setTop (mkF m 377 #[.val (.int x1), .val (.long x2), .second, .val (.long x3), .second, .val (.long x4), .second, .val (.long x5), .second, .val (.long x6), .second, .val (.ref b1), .val (.int (1 : Int32)), .val (.int (0 : Int32)), .val (.long (if x5 < x4 then x5 else x4)), .second, .val (.int (1 : Int32))] [(.int (1 : Int32))])) _
      refine XS.istore X110.here hx rfl (hb hby at_377) rfl (l' := #[.val (.int x1), .val (.long x2), .second, .val (.long x3), .second, .val (.long x4), .second, .val (.long x5), .second, .val (.long x6), .second, .val (.ref b1), .val (.int (1 : Int32)), .val (.int (0 : Int32)), .val (.long (if x5 < x4 then x5 else x4)), .second, .val (.int (1 : Int32))]) rfl ?_
      show Steps p.tables e below (T110.setTop (mkF m 379 #[.val (.int x1), .val (.long x2), .second, .val (.long x3), .second, .val (.long x4), .second, .val (.long x5), .second, .val (.long x6), .second, .val (.ref b1), .val (.int (1 : Int32)), .val (.int (0 : Int32)), .val (.long (if x5 < x4 then x5 else x4)), .second, .val (.int (1 : Int32))] [])) _
      refine XS.iload X110.here hx rfl (hb hby at_379) rfl ?_
      show Steps p.tables e below (T110.setTop (mkF m 381 #[.val (.int x1), .val (.long x2), .second, .val (.long x3), .second, .val (.long x4), .second, .val (.long x5), .second, .val (.long x6), .second, .val (.ref b1), .val (.int (1 : Int32)), .val (.int (0 : Int32)), .val (.long (if x5 < x4 then x5 else x4)), .second, .val (.int (1 : Int32))] [(.int (1 : Int32))])) _
      refine XS.ifNo X110.here hx rfl (hb hby at_381) rfl ((if0 _ _).trans (feq (by decide : ¬ ((1 : Int32) = (0 : Int32)))).1) ?_
      show Steps p.tables e below (T110.setTop (mkF m 384 #[.val (.int x1), .val (.long x2), .second, .val (.long x3), .second, .val (.long x4), .second, .val (.long x5), .second, .val (.long x6), .second, .val (.ref b1), .val (.int (1 : Int32)), .val (.int (0 : Int32)), .val (.long (if x5 < x4 then x5 else x4)), .second, .val (.int (1 : Int32))] [])) _
      refine XS.aload X110.here hx rfl (hb hby at_384) rfl rfl ?_
      show Steps p.tables e below (T110.setTop (mkF m 386 #[.val (.int x1), .val (.long x2), .second, .val (.long x3), .second, .val (.long x4), .second, .val (.long x5), .second, .val (.long x6), .second, .val (.ref b1), .val (.int (1 : Int32)), .val (.int (0 : Int32)), .val (.long (if x5 < x4 then x5 else x4)), .second, .val (.int (1 : Int32))] [(.ref b1)])) _
      refine st112 _ ?_
      show Steps p.tables e below (T112.setTop (mkF m 389 #[.val (.int x1), .val (.long x2), .second, .val (.long x3), .second, .val (.long x4), .second, .val (.long x5), .second, .val (.long x6), .second, .val (.ref b1), .val (.int (1 : Int32)), .val (.int (0 : Int32)), .val (.long (if x5 < x4 then x5 else x4)), .second, .val (.int (1 : Int32))] [(.ref b5_3)])) _
      refine XS.iload X112.here hx rfl (hb hby at_389) rfl ?_
      show Steps p.tables e below (T112.setTop (mkF m 391 #[.val (.int x1), .val (.long x2), .second, .val (.long x3), .second, .val (.long x4), .second, .val (.long x5), .second, .val (.long x6), .second, .val (.ref b1), .val (.int (1 : Int32)), .val (.int (0 : Int32)), .val (.long (if x5 < x4 then x5 else x4)), .second, .val (.int (1 : Int32))] [(.int (0 : Int32)), (.ref b5_3)])) _
      refine X112.laload hx (j := (0 : Int32)) (v := (.long (9223372036854775807 : Int64))) (by rw [e112]; exact Ar113.1) (State.isArrayOf_alike hZ.alike Ar113.2.1) Ar113.2.2 hin113 (H113.at hin113 rfl) (g := (mkF m 391 #[.val (.int x1), .val (.long x2), .second, .val (.long x3), .second, .val (.long x4), .second, .val (.long x5), .second, .val (.long x6), .second, .val (.ref b1), .val (.int (1 : Int32)), .val (.int (0 : Int32)), .val (.long (if x5 < x4 then x5 else x4)), .second, .val (.int (1 : Int32))] [(.int (0 : Int32)), (.ref b5_3)])) rfl rfl (hb hby at_391) _ ?_
      show Steps p.tables e below (T112.setTop (mkF m 392 #[.val (.int x1), .val (.long x2), .second, .val (.long x3), .second, .val (.long x4), .second, .val (.long x5), .second, .val (.long x6), .second, .val (.ref b1), .val (.int (1 : Int32)), .val (.int (0 : Int32)), .val (.long (if x5 < x4 then x5 else x4)), .second, .val (.int (1 : Int32))] [(.long (9223372036854775807 : Int64))])) _
      refine X112.ldc2Long hx hown (mvT hZ (hw _ (List.mem_of_getElem? (i := 83) rfl))) (g := (mkF m 392 #[.val (.int x1), .val (.long x2), .second, .val (.long x3), .second, .val (.long x4), .second, .val (.long x5), .second, .val (.long x6), .second, .val (.ref b1), .val (.int (1 : Int32)), .val (.int (0 : Int32)), .val (.long (if x5 < x4 then x5 else x4)), .second, .val (.int (1 : Int32))] [(.long (9223372036854775807 : Int64))])) rfl (hb hby at_392) _ ?_
      show Steps p.tables e below (T112.setTop (mkF m 395 #[.val (.int x1), .val (.long x2), .second, .val (.long x3), .second, .val (.long x4), .second, .val (.long x5), .second, .val (.long x6), .second, .val (.ref b1), .val (.int (1 : Int32)), .val (.int (0 : Int32)), .val (.long (if x5 < x4 then x5 else x4)), .second, .val (.int (1 : Int32))] [(.long (9223372036854775807 : Int64)), (.long (9223372036854775807 : Int64))])) _
      refine XS.lcmp X112.here hx rfl (hb hby at_395) rfl ?_
      show Steps p.tables e below (T112.setTop (mkF m 396 #[.val (.int x1), .val (.long x2), .second, .val (.long x3), .second, .val (.long x4), .second, .val (.long x5), .second, .val (.long x6), .second, .val (.ref b1), .val (.int (1 : Int32)), .val (.int (0 : Int32)), .val (.long (if x5 < x4 then x5 else x4)), .second, .val (.int (1 : Int32))] [(.int (lcmpW (9223372036854775807 : Int64) (9223372036854775807 : Int64)))])) _
      refine XS.ifNo X112.here hx rfl (hb hby at_396) rfl ((if0 _ _).trans (teq ((lw_eq _ _).mpr (by decide : (9223372036854775807 : Int64) = (9223372036854775807 : Int64)))).2) ?_
      show Steps p.tables e below (T112.setTop (mkF m 399 #[.val (.int x1), .val (.long x2), .second, .val (.long x3), .second, .val (.long x4), .second, .val (.long x5), .second, .val (.long x6), .second, .val (.ref b1), .val (.int (1 : Int32)), .val (.int (0 : Int32)), .val (.long (if x5 < x4 then x5 else x4)), .second, .val (.int (1 : Int32))] [])) _
      refine XS.iconst X112.here hx rfl (hb hby at_399) ?_
      show Steps p.tables e below (T112.setTop (mkF m 400 #[.val (.int x1), .val (.long x2), .second, .val (.long x3), .second, .val (.long x4), .second, .val (.long x5), .second, .val (.long x6), .second, .val (.ref b1), .val (.int (1 : Int32)), .val (.int (0 : Int32)), .val (.long (if x5 < x4 then x5 else x4)), .second, .val (.int (1 : Int32))] [(.int (1 : Int32))])) _
      refine XS.goto X112.here hx rfl (pc0 := 400) (pc' := 404) rfl (hb hby at_400) (by decide) (by decide) ?_
      show Steps p.tables e below (T112.setTop (mkF m 404 #[.val (.int x1), .val (.long x2), .second, .val (.long x3), .second, .val (.long x4), .second, .val (.long x5), .second, .val (.long x6), .second, .val (.ref b1), .val (.int (1 : Int32)), .val (.int (0 : Int32)), .val (.long (if x5 < x4 then x5 else x4)), .second, .val (.int (1 : Int32))] [(.int (1 : Int32))])) _
      refine XS.istore X112.here hx rfl (hb hby at_404) rfl (l' := #[.val (.int x1), .val (.long x2), .second, .val (.long x3), .second, .val (.long x4), .second, .val (.long x5), .second, .val (.long x6), .second, .val (.ref b1), .val (.int (1 : Int32)), .val (.int (0 : Int32)), .val (.long (if x5 < x4 then x5 else x4)), .second, .val (.int (1 : Int32))]) rfl ?_
      show Steps p.tables e below (T112.setTop (mkF m 406 #[.val (.int x1), .val (.long x2), .second, .val (.long x3), .second, .val (.long x4), .second, .val (.long x5), .second, .val (.long x6), .second, .val (.ref b1), .val (.int (1 : Int32)), .val (.int (0 : Int32)), .val (.long (if x5 < x4 then x5 else x4)), .second, .val (.int (1 : Int32))] [])) _
      refine XS.iload X112.here hx rfl (hb hby at_406) rfl ?_
      show Steps p.tables e below (T112.setTop (mkF m 408 #[.val (.int x1), .val (.long x2), .second, .val (.long x3), .second, .val (.long x4), .second, .val (.long x5), .second, .val (.long x6), .second, .val (.ref b1), .val (.int (1 : Int32)), .val (.int (0 : Int32)), .val (.long (if x5 < x4 then x5 else x4)), .second, .val (.int (1 : Int32))] [(.int (1 : Int32))])) _
      refine XS.ifNo X112.here hx rfl (hb hby at_408) rfl ((if0 _ _).trans (feq (by decide : ¬ ((1 : Int32) = (0 : Int32)))).1) ?_
      show Steps p.tables e below (T112.setTop (mkF m 411 #[.val (.int x1), .val (.long x2), .second, .val (.long x3), .second, .val (.long x4), .second, .val (.long x5), .second, .val (.long x6), .second, .val (.ref b1), .val (.int (1 : Int32)), .val (.int (0 : Int32)), .val (.long (if x5 < x4 then x5 else x4)), .second, .val (.int (1 : Int32))] [])) _
      refine XS.aload X112.here hx rfl (hb hby at_411) rfl rfl ?_
      show Steps p.tables e below (T112.setTop (mkF m 413 #[.val (.int x1), .val (.long x2), .second, .val (.long x3), .second, .val (.long x4), .second, .val (.long x5), .second, .val (.long x6), .second, .val (.ref b1), .val (.int (1 : Int32)), .val (.int (0 : Int32)), .val (.long (if x5 < x4 then x5 else x4)), .second, .val (.int (1 : Int32))] [(.ref b1)])) _
      refine st114.trans ?_
      show Steps p.tables e below (T114.setTop (mkF m 416 #[.val (.int x1), .val (.long x2), .second, .val (.long x3), .second, .val (.long x4), .second, .val (.long x5), .second, .val (.long x6), .second, .val (.ref b1), .val (.int (1 : Int32)), .val (.int (0 : Int32)), .val (.long (if x5 < x4 then x5 else x4)), .second, .val (.int (1 : Int32))] [(.int (2 : Int32))])) _
      refine XS.iconst X114.here hx rfl (hb hby at_416) ?_
      show Steps p.tables e below (T114.setTop (mkF m 417 #[.val (.int x1), .val (.long x2), .second, .val (.long x3), .second, .val (.long x4), .second, .val (.long x5), .second, .val (.long x6), .second, .val (.ref b1), .val (.int (1 : Int32)), .val (.int (0 : Int32)), .val (.long (if x5 < x4 then x5 else x4)), .second, .val (.int (1 : Int32))] [(.int (2 : Int32)), (.int (2 : Int32))])) _
      refine XS.icmpNo X114.here hx rfl (hb hby at_417) rfl (teq (by decide : (2 : Int32) = (2 : Int32))).2 ?_
      show Steps p.tables e below (T114.setTop (mkF m 420 #[.val (.int x1), .val (.long x2), .second, .val (.long x3), .second, .val (.long x4), .second, .val (.long x5), .second, .val (.long x6), .second, .val (.ref b1), .val (.int (1 : Int32)), .val (.int (0 : Int32)), .val (.long (if x5 < x4 then x5 else x4)), .second, .val (.int (1 : Int32))] [])) _
      refine XS.iconst X114.here hx rfl (hb hby at_420) ?_
      show Steps p.tables e below (T114.setTop (mkF m 421 #[.val (.int x1), .val (.long x2), .second, .val (.long x3), .second, .val (.long x4), .second, .val (.long x5), .second, .val (.long x6), .second, .val (.ref b1), .val (.int (1 : Int32)), .val (.int (0 : Int32)), .val (.long (if x5 < x4 then x5 else x4)), .second, .val (.int (1 : Int32))] [(.int (1 : Int32))])) _
      refine XS.goto X114.here hx rfl (pc0 := 421) (pc' := 425) rfl (hb hby at_421) (by decide) (by decide) ?_
      show Steps p.tables e below (T114.setTop (mkF m 425 #[.val (.int x1), .val (.long x2), .second, .val (.long x3), .second, .val (.long x4), .second, .val (.long x5), .second, .val (.long x6), .second, .val (.ref b1), .val (.int (1 : Int32)), .val (.int (0 : Int32)), .val (.long (if x5 < x4 then x5 else x4)), .second, .val (.int (1 : Int32))] [(.int (1 : Int32))])) _
      refine XS.istore X114.here hx rfl (hb hby at_425) rfl (l' := #[.val (.int x1), .val (.long x2), .second, .val (.long x3), .second, .val (.long x4), .second, .val (.long x5), .second, .val (.long x6), .second, .val (.ref b1), .val (.int (1 : Int32)), .val (.int (0 : Int32)), .val (.long (if x5 < x4 then x5 else x4)), .second, .val (.int (1 : Int32))]) rfl ?_
      show Steps p.tables e below (T114.setTop (mkF m 427 #[.val (.int x1), .val (.long x2), .second, .val (.long x3), .second, .val (.long x4), .second, .val (.long x5), .second, .val (.long x6), .second, .val (.ref b1), .val (.int (1 : Int32)), .val (.int (0 : Int32)), .val (.long (if x5 < x4 then x5 else x4)), .second, .val (.int (1 : Int32))] [])) _
      refine XS.iload X114.here hx rfl (hb hby at_427) rfl ?_
      show Steps p.tables e below (T114.setTop (mkF m 429 #[.val (.int x1), .val (.long x2), .second, .val (.long x3), .second, .val (.long x4), .second, .val (.long x5), .second, .val (.long x6), .second, .val (.ref b1), .val (.int (1 : Int32)), .val (.int (0 : Int32)), .val (.long (if x5 < x4 then x5 else x4)), .second, .val (.int (1 : Int32))] [(.int (1 : Int32))])) _
      exact retN X114 hx (t := .boolean) Bd.returns (by simp) (hb hby at_429) hr
    · show own_Q_own_law Z x1 x2 x3 x4 x5 x6 h0 n0 _ T114.heap _
      rw [e114]
      exact ⟨rfl, N114⟩
set_option maxRecDepth 65536 in
set_option maxHeartbeats 40000000 in
theorem own_comes_1 {Post : Tables → Env → Array Value → State → Outcome → State → Prop} (hpost : ∀ tb e args s v u, (limb_1_1.after args s (.returned v) u = true ∧ limb_1_2.after args s (.returned v) u = true ∧ True) → FrameEnd s (.returned v) u (Jvm.fieldLocs frame_1_writes args s ++ Jvm.arrayLocs frame_1_arrays args s ++ Jvm.staticLocs frame_1_statics s) 48 192 → Post tb e args s (.returned v) u) :
    ArmFor flags0 classFile x code maxLocals ret World_1 tables_1 room_1 Calls_1 rest_1 Pre_1 Post := by
  intro l hfl _ _ p e ha hc hk s m args below hf hA hF happ hP
  obtain ⟨hcalls, hrest, hpre⟩ := hP
  obtain ⟨-, -, -, hnamed, -, -, -, hat⟩ := (Spec.applies_iff hf).mp happ
  obtain ⟨hg, hn⟩ := and_e (Cond.before_iff.mp (show (Jvm.Cond.and given_1 narrow_1).before args s = true from hpre))
  obtain ⟨g1, g2⟩ := and_e hg
  obtain ⟨g3, g4⟩ := and_e g2
  obtain ⟨g5, g6⟩ := and_e g4
  obtain ⟨g7, g8⟩ := and_e g6
  obtain ⟨g9, g10⟩ := and_e g8
  obtain ⟨g11, g12⟩ := and_e g10
  obtain ⟨w0, w1, w2, w3, w4, w5, rfl⟩ : ∃ w0 w1 w2 w3 w4 w5 : Value, args = #[w0, w1, w2, w3, w4, w5] := by
    have hs : args.size = 6 := by simpa [Cond.value, given_1] using g1
    obtain ⟨L⟩ := args
    match L, hs with
    | [w0, w1, w2, w3, w4, w5], _ => exact ⟨w0, w1, w2, w3, w4, w5, rfl⟩
  have hw := fun d (hd : d ∈ tables_1) => atoms_spec (ws := Jvm.Cond.code x code maxLocals ret :: tables_1) hat d (List.mem_cons_of_mem _ hd)
  have hfit : Fit s := fun {y c} hc i hi => by
    obtain ⟨ha, rfl⟩ := Array.getElem?_eq_some_iff.mp hc
    have q := List.all_eq_true.mp ((Array.all_eq_true_iff_forall_mem.mp hF) _ (Array.getElem_mem ha)) i (List.mem_range.mpr hi)
    simpa [Array.getElem?_eq_getElem hi] using q
  obtain ⟨i0, ei0⟩ := is_v g3
  obtain rfl : w0 = (.int i0) := Option.some.inj ei0
  obtain ⟨i1, ei1⟩ := isL_v g5
  obtain rfl : w1 = (.long i1) := Option.some.inj ei1
  obtain ⟨i2, ei2⟩ := isL_v g7
  obtain rfl : w2 = (.long i2) := Option.some.inj ei2
  obtain ⟨i3, ei3⟩ := isL_v g9
  obtain rfl : w3 = (.long i3) := Option.some.inj ei3
  obtain ⟨i4, ei4⟩ := isL_v g11
  obtain rfl : w4 = (.long i4) := Option.some.inj ei4
  obtain ⟨i5, ei5⟩ := isL_v g12
  obtain rfl : w5 = (.long i5) := Option.some.inj ei5
  obtain ⟨n, o, h1, h2, h3, _, L, rfl, ⟨rfl, N⟩, hq⟩ := own_law l s _ hw tables_1 i0 i1 i2 i3 i4 i5  s.heap s.heap.size (Nat.le_refl _)  p e ha hc hk s m _ below hf ((Spec.applies_iff_loose hf).mp happ).1 ⟨rfl, State.Warmed39.refl s, rfl⟩ trivial
  refine ⟨n, _, h1, h2, h3, hpost _ _ _ _ _ _ ⟨Cond.after_iff.mpr rfl, Cond.after_iff.mpr (eq_i res_at (Term.int_eval (1)) rfl), trivial⟩ ⟨hq.1, hq.2.1, (hq.2.2.sift fun y hy => Or.inr (N y hy)).mono (by decide) (by decide)⟩⟩
theorem main_1_1 : Claimed_1_1 := own_comes_1 fun _ _ _ _ _ _ h hF => ⟨h.1, hF⟩
theorem main_1_2 : Claimed_1_2 := own_comes_1 fun _ _ _ _ _ _ h hF => ⟨h.2.1, hF⟩
end Jvm.Pilot.@@N@@
namespace Jvm.Pilot.@@N@@
open Jvm Jvm.ClassFile Sem Op Lib Jvm.Free Jvm.Stand Jvm.Pilot.@@N@@.Jvm.D
/-! MADE BY PROGRAM (witnessworld.py) out of the Statement's table words and the real class files: 14 classes; the members and pool entries that the words name. The judged class is class 1, her method 1. -/
namespace start1
open Jvm.ClassFile
def u (s : String) : CpInfo := .utf8 (stringToUtf16 s)
/-- a pool by its gaps: so many unusable entries, then the entry; so many at the end -/
def gap : Nat → List CpInfo → List CpInfo
  | 0, r => r
  | n + 1, r => .unusable :: gap n r
def poolList (es : List (Nat × CpInfo)) (last : Nat) : List CpInfo := es.foldr (fun e r => gap e.1 (e.2 :: r)) (gap last [])
def pool (es : List (Nat × CpInfo)) (last : Nat) : Array CpInfo := ⟨poolList es last⟩
def fileOf (pool : Array CpInfo) (this : Nat) (attrs : Array Attribute := #[]) (ms : Array MethodInfo := #[]) (fl : Nat := 33) (sup : Nat := 0) (ifs : Array Nat := #[]) (fds : Array FieldInfo := #[]) : ClassFile where
  minorVersion := 0
  majorVersion := 65
  constantPool := pool
  accessFlags := fl
  thisClass := this
  superClass := sup
  interfaces := ifs
  fields := fds
  methods := ms
  attributes := attrs
def plain (name : String) (sup : Option ClassId) : Class where
  name := name
  kind := .ordinary
  loader := none
  accessFlags := 33
  super := sup
  interfaces := #[]
  cf := none
  fields := #[]
  methods := #[]
  instanceTypes := #[]
  staticTypes := #[]
  resolved := #[]
  callSites := []
  init := .initialized
  statics := none
  mirror := none

def pool0 : Array CpInfo := pool [(5, u "<init>"), (0, u "()V"), (1, .class_ 10), (1, u "java/lang/Object")] 113

def k0c0 : Code := { maxStack := 0, maxLocals := 1, code := object_method_1_code, exceptionTable := #[], attributes := #[] }
def k0m0 : Method := { name := "<init>", desc := "()V", sig := { parameters := [], returnType := none }, accessFlags := 1, code := some k0c0 }
/-- java/lang/Object -/
def k0 : Class := { plain "java/lang/Object" none with
  accessFlags := 33
  interfaces := #[]
  cf := some (fileOf pool0 8 #[] #[{ accessFlags := 1, nameIndex := 5, descriptorIndex := 6, attributes := #[] }] 33 0 #[] #[])
  fields := #[]
  methods := #[k0m0]
  instanceTypes := #[]
  staticTypes := #[]
  resolved := Array.replicate 124 none
  statics := none }

def pool1 : Array CpInfo := pool [(2, .class_ 4), (0, .nameAndType 5 6), (0, u "java/lang/Object"), (0, u "<init>"), (0, u "()V"), (0, .class_ 8), (0, u "com/example/synclattice/synclattice/sync/StatePairs"), (0, .methodref 7 3), (0, .methodref 7 11), (0, .nameAndType 12 13), (0, u "clear"), (0, u "(I)V"), (0, .fieldref 7 15), (0, .nameAndType 16 17), (0, u "negatives"), (0, u "[J"), (0, .fieldref 7 19), (0, .nameAndType 20 17), (0, u "firstNegatives"), (0, .long 18446744073709551615), (1, .fieldref 7 24), (0, .nameAndType 25 17), (0, u "positives"), (0, .long 5), (1, .fieldref 7 29), (0, .nameAndType 30 17), (0, u "passes"), (0, .long 9), (1, .fieldref 7 34), (0, .nameAndType 35 17), (0, u "firstPositives"), (0, .methodref 7 37), (0, .nameAndType 38 39), (0, u "addNegatives"), (0, u "(IJJ)V"), (2, .long 9223372036854775807), (1, .methodref 7 45), (0, .nameAndType 46 47), (0, u "count"), (0, u "()I"), (0, .class_ 49), (0, u "com/example/synclattice/synclattice/sync/StatePairsAddNegativesPinLaw"), (2, u "law"), (0, u "(IJJJJJ)Z")] 3

def k1m0 : Method := { name := "<init>", desc := "()V", sig := { parameters := [], returnType := none }, accessFlags := 1, code := none }
def k1c1 : Code := { maxStack := 6, maxLocals := 17, code := code, exceptionTable := #[], attributes := #[] }
def k1m1 : Method := { name := "law", desc := "(IJJJJJ)Z", sig := { parameters := [.int, .long, .long, .long, .long, .long], returnType := some .boolean }, accessFlags := 9, code := some k1c1 }
/-- com/example/synclattice/synclattice/sync/StatePairsAddNegativesPinLaw -/
def k1 : Class := { plain "com/example/synclattice/synclattice/sync/StatePairsAddNegativesPinLaw" (some 0) with
  accessFlags := 49
  interfaces := #[]
  cf := some (fileOf pool1 48 #[] #[{ accessFlags := 1, nameIndex := 5, descriptorIndex := 6, attributes := #[] }, { accessFlags := 9, nameIndex := 52, descriptorIndex := 53, attributes := #[] }] 49 2 #[] #[])
  fields := #[]
  methods := #[k1m0, k1m1]
  instanceTypes := #[]
  staticTypes := #[]
  resolved := Array.replicate 57 none
  statics := none }

def pool2 : Array CpInfo := pool [(1, .methodref 2 3), (0, .class_ 4), (0, .nameAndType 5 6), (0, u "java/lang/Object"), (0, u "<init>"), (0, u "()V"), (0, .fieldref 8 9), (0, .class_ 10), (0, .nameAndType 11 12), (0, u "com/example/synclattice/synclattice/sync/StatePairs"), (0, u "positives"), (0, u "[J"), (0, .fieldref 8 14), (0, .nameAndType 15 12), (0, u "negatives"), (0, .fieldref 8 17), (0, .nameAndType 18 12), (0, u "passes"), (0, .fieldref 8 20), (0, .nameAndType 21 12), (0, u "firstPositives"), (0, .fieldref 8 23), (0, .nameAndType 24 12), (0, u "firstNegatives"), (0, .fieldref 8 26), (0, .nameAndType 27 28), (0, u "sharedStateOf"), (0, u "[I"), (0, .fieldref 8 30), (0, .nameAndType 31 28), (0, u "ownStateOf"), (0, .fieldref 8 33), (0, .nameAndType 34 12), (0, u "keys"), (0, .fieldref 8 36), (0, .nameAndType 37 28), (0, u "numbers"), (0, .fieldref 8 39), (0, .nameAndType 40 28), (0, u "slotOf"), (0, .fieldref 8 42), (0, .nameAndType 43 44), (0, u "sharedStates"), (0, u "I"), (0, .fieldref 8 46), (0, .nameAndType 47 44), (0, u "count"), (0, .methodref 8 49), (0, .nameAndType 50 51), (0, u "fit"), (0, u "(I)V"), (2, .methodref 8 55), (0, .nameAndType 56 57), (0, u "add"), (0, u "(II)I"), (13, .methodref 72 73), (0, .class_ 74), (0, .nameAndType 75 57), (0, u "java/lang/Math"), (0, u "max"), (0, .methodref 77 78), (0, .class_ 79), (0, .nameAndType 80 81), (0, u "java/util/Arrays"), (0, u "copyOf"), (0, u "([JI)[J"), (0, .methodref 77 83), (0, .nameAndType 80 84), (0, u "([II)[I"), (0, .long 9223372036854775807), (1, .methodref 72 88), (0, .nameAndType 89 90), (0, u "min"), (0, u "(JJ)J"), (2, u "clear"), (2, u "()I"), (5, u "addNegatives"), (0, u "(IJJ)V")] 5

def k2c0 : Code := { maxStack := 2, maxLocals := 1, code := prog_101_method_1_code, exceptionTable := #[], attributes := #[] }
def k2m0 : Method := { name := "<init>", desc := "()V", sig := { parameters := [], returnType := none }, accessFlags := 0, code := some k2c0 }
def k2c1 : Code := { maxStack := 3, maxLocals := 3, code := prog_101_method_2_code, exceptionTable := #[], attributes := #[] }
def k2m1 : Method := { name := "clear", desc := "(I)V", sig := { parameters := [.int], returnType := none }, accessFlags := 0, code := some k2c1 }
def k2c2 : Code := { maxStack := 3, maxLocals := 3, code := prog_101_method_6_code, exceptionTable := #[], attributes := #[] }
def k2m2 : Method := { name := "fit", desc := "(I)V", sig := { parameters := [.int], returnType := none }, accessFlags := 2, code := some k2c2 }
def k2c3 : Code := { maxStack := 4, maxLocals := 3, code := prog_101_method_7_code, exceptionTable := #[], attributes := #[] }
def k2m3 : Method := { name := "add", desc := "(II)I", sig := { parameters := [.int, .int], returnType := some .int }, accessFlags := 2, code := some k2c3 }
def k2c4 : Code := { maxStack := 1, maxLocals := 1, code := prog_101_method_8_code, exceptionTable := #[], attributes := #[] }
def k2m4 : Method := { name := "count", desc := "()I", sig := { parameters := [], returnType := some .int }, accessFlags := 0, code := some k2c4 }
def k2c5 : Code := { maxStack := 6, maxLocals := 6, code := prog_101_method_12_code, exceptionTable := #[], attributes := #[] }
def k2m5 : Method := { name := "addNegatives", desc := "(IJJ)V", sig := { parameters := [.int, .long, .long], returnType := none }, accessFlags := 0, code := some k2c5 }
/-- com/example/synclattice/synclattice/sync/StatePairs -/
def k2 : Class := { plain "com/example/synclattice/synclattice/sync/StatePairs" (some 0) with
  accessFlags := 48
  interfaces := #[]
  cf := some (fileOf pool2 8 #[] #[{ accessFlags := 0, nameIndex := 5, descriptorIndex := 6, attributes := #[] }, { accessFlags := 0, nameIndex := 93, descriptorIndex := 51, attributes := #[] }, { accessFlags := 2, nameIndex := 50, descriptorIndex := 51, attributes := #[] }, { accessFlags := 2, nameIndex := 56, descriptorIndex := 57, attributes := #[] }, { accessFlags := 0, nameIndex := 47, descriptorIndex := 96, attributes := #[] }, { accessFlags := 0, nameIndex := 102, descriptorIndex := 103, attributes := #[] }] 48 2 #[] #[{ accessFlags := 2, nameIndex := 43, descriptorIndex := 44, attributes := #[] }, { accessFlags := 2, nameIndex := 47, descriptorIndex := 44, attributes := #[] }, { accessFlags := 0, nameIndex := 11, descriptorIndex := 12, attributes := #[] }, { accessFlags := 0, nameIndex := 15, descriptorIndex := 12, attributes := #[] }, { accessFlags := 0, nameIndex := 18, descriptorIndex := 12, attributes := #[] }, { accessFlags := 0, nameIndex := 21, descriptorIndex := 12, attributes := #[] }, { accessFlags := 0, nameIndex := 24, descriptorIndex := 12, attributes := #[] }, { accessFlags := 2, nameIndex := 27, descriptorIndex := 28, attributes := #[] }, { accessFlags := 2, nameIndex := 31, descriptorIndex := 28, attributes := #[] }, { accessFlags := 2, nameIndex := 34, descriptorIndex := 12, attributes := #[] }, { accessFlags := 2, nameIndex := 37, descriptorIndex := 28, attributes := #[] }, { accessFlags := 2, nameIndex := 40, descriptorIndex := 28, attributes := #[] }])
  fields := #[{ name := "sharedStates", type := .int, accessFlags := 2, slot := 0, constantValue := 0 }, { name := "count", type := .int, accessFlags := 2, slot := 1, constantValue := 0 }, { name := "positives", type := (.array .long), accessFlags := 0, slot := 2, constantValue := 0 }, { name := "negatives", type := (.array .long), accessFlags := 0, slot := 3, constantValue := 0 }, { name := "passes", type := (.array .long), accessFlags := 0, slot := 4, constantValue := 0 }, { name := "firstPositives", type := (.array .long), accessFlags := 0, slot := 5, constantValue := 0 }, { name := "firstNegatives", type := (.array .long), accessFlags := 0, slot := 6, constantValue := 0 }, { name := "sharedStateOf", type := (.array .int), accessFlags := 2, slot := 7, constantValue := 0 }, { name := "ownStateOf", type := (.array .int), accessFlags := 2, slot := 8, constantValue := 0 }, { name := "keys", type := (.array .long), accessFlags := 2, slot := 9, constantValue := 0 }, { name := "numbers", type := (.array .int), accessFlags := 2, slot := 10, constantValue := 0 }, { name := "slotOf", type := (.array .int), accessFlags := 2, slot := 11, constantValue := 0 }]
  methods := #[k2m0, k2m1, k2m2, k2m3, k2m4, k2m5]
  instanceTypes := #[.int, .int, (.array .long), (.array .long), (.array .long), (.array .long), (.array .long), (.array .int), (.array .int), (.array .long), (.array .int), (.array .int)]
  staticTypes := #[]
  resolved := Array.replicate 109 none
  statics := none }

def pool3 : Array CpInfo := pool [(1, .class_ 2), (0, u "java/lang/Math"), (1, .class_ 6), (1, u "java/lang/Object"), (0, u "<init>"), (0, u "()V"), (89, .class_ 100), (1, u "java/lang/Math$RandomNumberGeneratorHolder"), (20, u "(JJ)J"), (50, u "negativeZeroFloatBits"), (0, u "J"), (2, u "negativeZeroDoubleBits"), (21, u "max"), (2, u "min"), (43, u "$assertionsDisabled"), (0, u "Z"), (88, u "(II)I"), (2, u "twoToTheDoubleScaleDown"), (0, u "D"), (4, u "twoToTheDoubleScaleUp"), (9, u "E"), (3, u "PI"), (2, u "TAU"), (2, u "DEGREES_TO_RADIANS"), (0, u "RADIANS_TO_DEGREES")] 94

def k3m0 : Method := { name := "<init>", desc := "()V", sig := { parameters := [], returnType := none }, accessFlags := 2, code := none }
def k3c1 : Code := { maxStack := 2, maxLocals := 2, code := jdk_29_method_65_code, exceptionTable := #[], attributes := #[] }
def k3m1 : Method := { name := "max", desc := "(II)I", sig := { parameters := [.int, .int], returnType := some .int }, accessFlags := 9, code := some k3c1 }
def k3c2 : Code := { maxStack := 2, maxLocals := 2, code := jdk_29_method_69_code, exceptionTable := #[], attributes := #[] }
def k3m2 : Method := { name := "min", desc := "(II)I", sig := { parameters := [.int, .int], returnType := some .int }, accessFlags := 9, code := some k3c2 }
def k3c3 : Code := { maxStack := 4, maxLocals := 4, code := jdk_29_method_70_code, exceptionTable := #[], attributes := #[] }
def k3m3 : Method := { name := "min", desc := "(JJ)J", sig := { parameters := [.long, .long], returnType := some .long }, accessFlags := 9, code := some k3c3 }
/-- java/lang/Math -/
def k3 : Class := { plain "java/lang/Math" (some 0) with
  accessFlags := 49
  interfaces := #[]
  cf := some (fileOf pool3 1 #[.nestMembers #[98]] #[{ accessFlags := 2, nameIndex := 7, descriptorIndex := 8, attributes := #[] }, { accessFlags := 9, nameIndex := 198, descriptorIndex := 335, attributes := #[] }, { accessFlags := 9, nameIndex := 201, descriptorIndex := 335, attributes := #[] }, { accessFlags := 9, nameIndex := 201, descriptorIndex := 121, attributes := #[] }] 49 4 #[] #[{ accessFlags := 25, nameIndex := 354, descriptorIndex := 339, attributes := #[] }, { accessFlags := 25, nameIndex := 358, descriptorIndex := 339, attributes := #[] }, { accessFlags := 25, nameIndex := 361, descriptorIndex := 339, attributes := #[] }, { accessFlags := 26, nameIndex := 364, descriptorIndex := 339, attributes := #[] }, { accessFlags := 26, nameIndex := 365, descriptorIndex := 339, attributes := #[] }, { accessFlags := 26, nameIndex := 172, descriptorIndex := 173, attributes := #[] }, { accessFlags := 26, nameIndex := 176, descriptorIndex := 173, attributes := #[] }, { accessFlags := 8, nameIndex := 344, descriptorIndex := 339, attributes := #[] }, { accessFlags := 8, nameIndex := 338, descriptorIndex := 339, attributes := #[] }, { accessFlags := 4120, nameIndex := 245, descriptorIndex := 246, attributes := #[] }])
  fields := #[{ name := "E", type := .double, accessFlags := 25, slot := 0, constantValue := 0 }, { name := "PI", type := .double, accessFlags := 25, slot := 1, constantValue := 0 }, { name := "TAU", type := .double, accessFlags := 25, slot := 2, constantValue := 0 }, { name := "DEGREES_TO_RADIANS", type := .double, accessFlags := 26, slot := 3, constantValue := 0 }, { name := "RADIANS_TO_DEGREES", type := .double, accessFlags := 26, slot := 4, constantValue := 0 }, { name := "negativeZeroFloatBits", type := .long, accessFlags := 26, slot := 5, constantValue := 0 }, { name := "negativeZeroDoubleBits", type := .long, accessFlags := 26, slot := 6, constantValue := 0 }, { name := "twoToTheDoubleScaleUp", type := .double, accessFlags := 8, slot := 7, constantValue := 0 }, { name := "twoToTheDoubleScaleDown", type := .double, accessFlags := 8, slot := 8, constantValue := 0 }, { name := "$assertionsDisabled", type := .boolean, accessFlags := 4120, slot := 9, constantValue := 0 }]
  methods := #[k3m0, k3m1, k3m2, k3m3]
  instanceTypes := #[]
  staticTypes := #[.double, .double, .double, .double, .double, .long, .long, .double, .double, .boolean]
  resolved := Array.replicate 460 none
  statics := none }

def pool4 : Array CpInfo := pool [(2, .class_ 4), (1, u "java/lang/Object"), (0, u "<init>"), (0, u "()V"), (7, .class_ 16), (1, u "java/util/Arrays"), (57, .class_ 76), (1, u "java/util/Arrays$NaturalOrder"), (36, .class_ 115), (1, u "java/util/Arrays$LegacyMergeSort"), (1, u "Z"), (32, .methodref 151 152), (0, .class_ 153), (0, .nameAndType 154 155), (0, u "java/lang/System"), (0, u "arraycopy"), (0, u "(Ljava/lang/Object;ILjava/lang/Object;II)V"), (146, u "copyOf"), (1, .methodref 305 306), (0, .class_ 307), (0, .nameAndType 308 309), (0, u "java/lang/Math"), (0, u "min"), (0, u "(II)I"), (65, .class_ 376), (0, u "java/util/Arrays$ArrayList"), (68, u "$assertionsDisabled"), (269, u "MIN_ARRAY_SORT_GRAN"), (0, u "I"), (2, u "INSERTIONSORT_THRESHOLD"), (151, u "([II)[I"), (0, u "([JI)[J"), (102, .class_ 976), (0, u "java/util/Arrays$ArrayItr")] 52

def k4m0 : Method := { name := "<init>", desc := "()V", sig := { parameters := [], returnType := none }, accessFlags := 2, code := none }
def k4c1 : Code := { maxStack := 6, maxLocals := 3, code := jdk_65_method_123_code, exceptionTable := #[], attributes := #[] }
def k4m1 : Method := { name := "copyOf", desc := "([II)[I", sig := { parameters := [(.array .int), .int], returnType := some (.array .int) }, accessFlags := 9, code := some k4c1 }
def k4c2 : Code := { maxStack := 6, maxLocals := 3, code := jdk_65_method_124_code, exceptionTable := #[], attributes := #[] }
def k4m2 : Method := { name := "copyOf", desc := "([JI)[J", sig := { parameters := [(.array .long), .int], returnType := some (.array .long) }, accessFlags := 9, code := some k4c2 }
/-- java/util/Arrays -/
def k4 : Class := { plain "java/util/Arrays" (some 0) with
  accessFlags := 49
  interfaces := #[]
  cf := some (fileOf pool4 14 #[.nestMembers #[975, 375, 113, 74]] #[{ accessFlags := 2, nameIndex := 5, descriptorIndex := 6, attributes := #[] }, { accessFlags := 9, nameIndex := 302, descriptorIndex := 871, attributes := #[] }, { accessFlags := 9, nameIndex := 302, descriptorIndex := 872, attributes := #[] }] 49 2 #[] #[{ accessFlags := 26, nameIndex := 715, descriptorIndex := 716, attributes := #[] }, { accessFlags := 26, nameIndex := 719, descriptorIndex := 716, attributes := #[] }, { accessFlags := 4120, nameIndex := 445, descriptorIndex := 117, attributes := #[] }])
  fields := #[{ name := "MIN_ARRAY_SORT_GRAN", type := .int, accessFlags := 26, slot := 0, constantValue := 0 }, { name := "INSERTIONSORT_THRESHOLD", type := .int, accessFlags := 26, slot := 1, constantValue := 0 }, { name := "$assertionsDisabled", type := .boolean, accessFlags := 4120, slot := 2, constantValue := 0 }]
  methods := #[k4m0, k4m1, k4m2]
  instanceTypes := #[]
  staticTypes := #[.int, .int, .boolean]
  resolved := Array.replicate 1029 none
  statics := none }

def pool5 : Array CpInfo := pool [(2, .class_ 4), (1, u "java/lang/Object"), (0, u "<init>"), (0, u "()V"), (1, .class_ 10), (1, u "java/lang/System"), (0, u "allowSecurityManager"), (0, u "I"), (16, u "cons"), (0, u "Ljava/io/Console;"), (77, .class_ 110), (1, u "java/lang/System$CallersHolder"), (43, u "initialErrStream"), (0, u "Ljava/io/PrintStream;"), (19, u "security"), (0, u "Ljava/lang/SecurityManager;"), (31, .class_ 209), (0, u "java/lang/System$1"), (7, u "props"), (0, u "Ljava/util/Properties;"), (2, u "lineSeparator"), (0, u "Ljava/lang/String;"), (96, .class_ 321), (1, u "java/lang/System$LoggerFinder"), (5, .class_ 328), (0, u "java/lang/System$Logger"), (67, u "err"), (2, u "out"), (91, u "notSupportedJnuEncoding"), (15, u "in"), (17, u "initialIn"), (0, u "Ljava/io/InputStream;"), (35, u "bootLayer"), (0, u "Ljava/lang/ModuleLayer;"), (99, .class_ 664), (0, u "java/lang/System$2"), (9, u "NEVER"), (2, u "MAYBE"), (49, u "arraycopy"), (0, u "(Ljava/lang/Object;ILjava/lang/Object;II)V"), (72, .class_ 802), (0, u "java/lang/System$Logger$Level")] 31

def k5m0 : Method := { name := "<init>", desc := "()V", sig := { parameters := [], returnType := none }, accessFlags := 2, code := none }
def k5m1 : Method := { name := "arraycopy", desc := "(Ljava/lang/Object;ILjava/lang/Object;II)V", sig := { parameters := [(.object "java/lang/Object"), .int, (.object "java/lang/Object"), .int, .int], returnType := none }, accessFlags := 265, code := none }
/-- java/lang/System -/
def k5 : Class := { plain "java/lang/System" (some 0) with
  accessFlags := 49
  interfaces := #[]
  cf := some (fileOf pool5 8 #[.nestMembers #[319, 327, 801, 108, 663, 208]] #[{ accessFlags := 2, nameIndex := 5, descriptorIndex := 6, attributes := #[] }, { accessFlags := 265, nameIndex := 727, descriptorIndex := 728, attributes := #[] }] 49 2 #[] #[{ accessFlags := 25, nameIndex := 507, descriptorIndex := 526, attributes := #[] }, { accessFlags := 25, nameIndex := 399, descriptorIndex := 155, attributes := #[] }, { accessFlags := 25, nameIndex := 396, descriptorIndex := 155, attributes := #[] }, { accessFlags := 10, nameIndex := 525, descriptorIndex := 526, attributes := #[] }, { accessFlags := 26, nameIndex := 674, descriptorIndex := 12, attributes := #[] }, { accessFlags := 26, nameIndex := 677, descriptorIndex := 12, attributes := #[] }, { accessFlags := 10, nameIndex := 11, descriptorIndex := 12, attributes := #[] }, { accessFlags := 74, nameIndex := 175, descriptorIndex := 176, attributes := #[] }, { accessFlags := 10, nameIndex := 491, descriptorIndex := 222, attributes := #[] }, { accessFlags := 74, nameIndex := 29, descriptorIndex := 30, attributes := #[] }, { accessFlags := 74, nameIndex := 154, descriptorIndex := 155, attributes := #[] }, { accessFlags := 10, nameIndex := 217, descriptorIndex := 218, attributes := #[] }, { accessFlags := 10, nameIndex := 221, descriptorIndex := 222, attributes := #[] }, { accessFlags := 8, nameIndex := 562, descriptorIndex := 563, attributes := #[] }])
  fields := #[{ name := "in", type := (.object "java/io/InputStream"), accessFlags := 25, slot := 0, constantValue := 0 }, { name := "out", type := (.object "java/io/PrintStream"), accessFlags := 25, slot := 1, constantValue := 0 }, { name := "err", type := (.object "java/io/PrintStream"), accessFlags := 25, slot := 2, constantValue := 0 }, { name := "initialIn", type := (.object "java/io/InputStream"), accessFlags := 10, slot := 3, constantValue := 0 }, { name := "NEVER", type := .int, accessFlags := 26, slot := 4, constantValue := 0 }, { name := "MAYBE", type := .int, accessFlags := 26, slot := 5, constantValue := 0 }, { name := "allowSecurityManager", type := .int, accessFlags := 10, slot := 6, constantValue := 0 }, { name := "security", type := (.object "java/lang/SecurityManager"), accessFlags := 74, slot := 7, constantValue := 0 }, { name := "notSupportedJnuEncoding", type := (.object "java/lang/String"), accessFlags := 10, slot := 8, constantValue := 0 }, { name := "cons", type := (.object "java/io/Console"), accessFlags := 74, slot := 9, constantValue := 0 }, { name := "initialErrStream", type := (.object "java/io/PrintStream"), accessFlags := 74, slot := 10, constantValue := 0 }, { name := "props", type := (.object "java/util/Properties"), accessFlags := 10, slot := 11, constantValue := 0 }, { name := "lineSeparator", type := (.object "java/lang/String"), accessFlags := 10, slot := 12, constantValue := 0 }, { name := "bootLayer", type := (.object "java/lang/ModuleLayer"), accessFlags := 8, slot := 13, constantValue := 0 }]
  methods := #[k5m0, k5m1]
  instanceTypes := #[]
  staticTypes := #[(.object "java/io/InputStream"), (.object "java/io/PrintStream"), (.object "java/io/PrintStream"), (.object "java/io/InputStream"), .int, .int, .int, (.object "java/lang/SecurityManager"), (.object "java/lang/String"), (.object "java/io/Console"), (.object "java/io/PrintStream"), (.object "java/util/Properties"), (.object "java/lang/String"), (.object "java/lang/ModuleLayer")]
  resolved := Array.replicate 834 none
  statics := none }

def pool6 : Array CpInfo := pool [(1, u "java/lang/Cloneable"), (0, .class_ 1), (0, u "java/lang/Object"), (0, .class_ 3)] 3

/-- java/lang/Cloneable -/
def k6 : Class := { plain "java/lang/Cloneable" (some 0) with
  accessFlags := 1537
  interfaces := #[]
  cf := some (fileOf pool6 2 #[] #[] 1537 4 #[] #[])
  fields := #[]
  methods := #[]
  instanceTypes := #[]
  staticTypes := #[]
  resolved := Array.replicate 8 none
  statics := none }

def pool7 : Array CpInfo := pool [(1, u "java/io/Serializable"), (0, .class_ 1), (0, u "java/lang/Object"), (0, .class_ 3)] 3

/-- java/io/Serializable -/
def k7 : Class := { plain "java/io/Serializable" (some 0) with
  accessFlags := 1537
  interfaces := #[]
  cf := some (fileOf pool7 2 #[] #[] 1537 4 #[] #[])
  fields := #[]
  methods := #[]
  instanceTypes := #[]
  staticTypes := #[]
  resolved := Array.replicate 8 none
  statics := none }

/-- the primitive byte -/
def k8 : Class := { plain "byte" none with kind := .primitive 'B', accessFlags := 0x411 }
/-- [B -/
def k9 : Class := { plain "[B" (some 0) with kind := .array 8 .byte, interfaces := #[6, 7], accessFlags := 1041 }

/-- the primitive int -/
def k10 : Class := { plain "int" none with kind := .primitive 'I', accessFlags := 0x411 }
/-- [I -/
def k11 : Class := { plain "[I" (some 0) with kind := .array 10 .int, interfaces := #[6, 7], accessFlags := 1041 }

/-- the primitive long -/
def k12 : Class := { plain "long" none with kind := .primitive 'J', accessFlags := 0x411 }
/-- [J -/
def k13 : Class := { plain "[J" (some 0) with kind := .array 12 .long, interfaces := #[6, 7], accessFlags := 1041 }

def heap : Heap := #[]
def classes : Array Class := #[k0, k1, k2, k3, k4, k5, k6, k7, k8, k9, k10, k11, k12, k13]
def interned : List (Array UInt16 × Addr) := []
def slotsUsed : Nat := 0
def theMethod : MethodId := ⟨1, 1⟩
def args0 : Array Value := #[.int 77, .long 9, .long 3, .long 4, .long 5, .long 6]
def aboutOver (below : List Frame) : State where
  vm := { classes := classes, interned := interned.toArray }
  heap := heap
  slotsUsed := slotsUsed
  threads := #[{ frames := .invoking theMethod args0 :: below }]
def below0 : List Frame := [.native { method := ⟨0, 0⟩, args := #[] }]
def about1 : State := aboutOver below0
def p0 : Program := .bare "" "" ""
def e0 : Env := launch0.env 0 0 0
theorem w_frames : about1.frames = Frame.invoking theMethod args0 :: below0 := rfl
set_option maxRecDepth 65536 in
theorem w_args : argsFit about1.vm theMethod args0 = true := by decide +kernel
set_option maxRecDepth 65536 in
theorem w_heap : heapFits about1 = true := by decide +kernel
set_option maxRecDepth 65536 in
theorem w_runnable : about1.curStatus? = some .runnable := by decide +kernel
set_option maxRecDepth 65536 in
theorem w_alone : about1.alone = true := by decide +kernel
set_option maxRecDepth 65536 in
theorem w_named : about1.methodNamed? x = some theMethod := by decide +kernel
set_option maxRecDepth 65536 in
theorem w_hears : about1.hears theMethod below0 = true := by decide +kernel
set_option maxRecDepth 65536 in
theorem w_ripe : about1.ripe theMethod args0 below0 = true := by decide +kernel
theorem w_running : about1.status = .running := rfl
set_option maxRecDepth 65536 in
theorem w_room : about1.hasRoom e0.platform room_1 = true :=
  launch0.hasRoom_least _ room_1 (by decide +kernel) (by decide +kernel) (by decide +kernel) (by decide +kernel) (by decide +kernel) (by decide +kernel)
theorem allAtoms_all (ts : List Jvm.Cond) (a : Array Jvm.Value) (st : Jvm.State) : (allAtoms ts).before a st = ts.all (fun c => c.before a st) := by
  induction ts with
  | nil => rfl
  | cons c t ih =>
    show (Jvm.Cond.and c (allAtoms t)).before a st = _
    rw [Jvm.Cond.before_and, ih, List.all_cons]
def words1 : List Jvm.Cond := Jvm.Cond.code x code maxLocals ret :: tables_1
/-- a 'code' word, met by the world's own term for the bytes: nothing is compared byte by byte -/
theorem code_word {y : MethodName} {bytes : ByteArray} {mx : Nat} {rt : Option FieldType} {a : Array Value} {s : State} {m : MethodId} {meth : Method} {c : Code} (h1 : s.methodNamed? y = some m) (h2 : s.vm.method? m = some meth) (h3 : meth.code = some c) (h4 : c.code = bytes)
    (h5 : (c.maxLocals == mx && c.exceptionTable.isEmpty && decide (c.maxStack ≤ mostOperands) && decide (meth.sig.returnType = rt) && !meth.locks && decide (parseMethodDescriptor y.desc = some meth.sig)) = true) : (Jvm.Cond.code y bytes mx rt).before a s = true := by
  simp only [Bool.and_eq_true, beq_iff_eq, Bool.not_eq_true', decide_eq_true_eq] at h5
  obtain ⟨⟨⟨⟨⟨g1, g2⟩, g3⟩, g4⟩, g5⟩, g6⟩ := h5
  simp [Cond.before, Cond.holds, Cond.value, h1, h2, h3, h4, g1, g2, g3, g4, g5, g6]
def isCode : Jvm.Cond → Bool
  | .code _ _ _ _ => true
  | _ => false
theorem all_split {L : List Jvm.Cond} {P : Jvm.Cond → Bool} (h1 : L.all (fun c => isCode c || P c) = true) (h2 : ∀ c ∈ L.filter isCode, P c = true) : L.all P = true := by
  refine List.all_eq_true.mpr fun c hc => ?_
  have h := List.all_eq_true.mp h1 c hc
  rcases Bool.eq_false_or_eq_true (isCode c) with hi | hi
  · exact h2 c (List.mem_filter.mpr ⟨hc, hi⟩)
  · simpa [hi] using h
set_option maxRecDepth 65536 in
theorem w_c0 : (Jvm.Cond.code x code maxLocals ret).before args0 about1 = true := code_word (m := ⟨1, 1⟩) (meth := k1m1) (c := k1c1) (by decide +kernel) rfl rfl rfl (by decide +kernel)
set_option maxRecDepth 65536 in
theorem w_c1 : (Jvm.Cond.code ({ cls := "com/example/synclattice/synclattice/sync/StatePairs", name := "<init>", desc := "()V" } : Jvm.MethodName) prog_101_method_1_code (1 : Nat) (Option.none : Option Jvm.ClassFile.FieldType)).before args0 about1 = true := code_word (m := ⟨2, 0⟩) (meth := k2m0) (c := k2c0) (by decide +kernel) rfl rfl rfl (by decide +kernel)
set_option maxRecDepth 65536 in
theorem w_c2 : (Jvm.Cond.code ({ cls := "java/lang/Object", name := "<init>", desc := "()V" } : Jvm.MethodName) object_method_1_code (1 : Nat) (Option.none : Option Jvm.ClassFile.FieldType)).before args0 about1 = true := code_word (m := ⟨0, 0⟩) (meth := k0m0) (c := k0c0) (by decide +kernel) rfl rfl rfl (by decide +kernel)
set_option maxRecDepth 65536 in
theorem w_c3 : (Jvm.Cond.code ({ cls := "com/example/synclattice/synclattice/sync/StatePairs", name := "clear", desc := "(I)V" } : Jvm.MethodName) prog_101_method_2_code (3 : Nat) (Option.none : Option Jvm.ClassFile.FieldType)).before args0 about1 = true := code_word (m := ⟨2, 1⟩) (meth := k2m1) (c := k2c1) (by decide +kernel) rfl rfl rfl (by decide +kernel)
set_option maxRecDepth 65536 in
theorem w_c4 : (Jvm.Cond.code ({ cls := "com/example/synclattice/synclattice/sync/StatePairs", name := "fit", desc := "(I)V" } : Jvm.MethodName) prog_101_method_6_code (3 : Nat) (Option.none : Option Jvm.ClassFile.FieldType)).before args0 about1 = true := code_word (m := ⟨2, 2⟩) (meth := k2m2) (c := k2c2) (by decide +kernel) rfl rfl rfl (by decide +kernel)
set_option maxRecDepth 65536 in
theorem w_c5 : (Jvm.Cond.code ({ cls := "java/lang/Math", name := "max", desc := "(II)I" } : Jvm.MethodName) jdk_29_method_65_code (2 : Nat) (Option.some Jvm.ClassFile.FieldType.int)).before args0 about1 = true := code_word (m := ⟨3, 1⟩) (meth := k3m1) (c := k3c1) (by decide +kernel) rfl rfl rfl (by decide +kernel)
set_option maxRecDepth 65536 in
theorem w_c6 : (Jvm.Cond.code ({ cls := "java/util/Arrays", name := "copyOf", desc := "([JI)[J" } : Jvm.MethodName) jdk_65_method_124_code (3 : Nat) (Option.some (Jvm.ClassFile.FieldType.array Jvm.ClassFile.FieldType.long))).before args0 about1 = true := code_word (m := ⟨4, 2⟩) (meth := k4m2) (c := k4c2) (by decide +kernel) rfl rfl rfl (by decide +kernel)
set_option maxRecDepth 65536 in
theorem w_c7 : (Jvm.Cond.code ({ cls := "java/lang/Math", name := "min", desc := "(II)I" } : Jvm.MethodName) jdk_29_method_69_code (2 : Nat) (Option.some Jvm.ClassFile.FieldType.int)).before args0 about1 = true := code_word (m := ⟨3, 2⟩) (meth := k3m2) (c := k3c2) (by decide +kernel) rfl rfl rfl (by decide +kernel)
set_option maxRecDepth 65536 in
theorem w_c8 : (Jvm.Cond.code ({ cls := "java/util/Arrays", name := "copyOf", desc := "([II)[I" } : Jvm.MethodName) jdk_65_method_123_code (3 : Nat) (Option.some (Jvm.ClassFile.FieldType.array Jvm.ClassFile.FieldType.int))).before args0 about1 = true := code_word (m := ⟨4, 1⟩) (meth := k4m1) (c := k4c1) (by decide +kernel) rfl rfl rfl (by decide +kernel)
set_option maxRecDepth 65536 in
theorem w_c9 : (Jvm.Cond.code ({ cls := "com/example/synclattice/synclattice/sync/StatePairs", name := "add", desc := "(II)I" } : Jvm.MethodName) prog_101_method_7_code (3 : Nat) (Option.some Jvm.ClassFile.FieldType.int)).before args0 about1 = true := code_word (m := ⟨2, 3⟩) (meth := k2m3) (c := k2c3) (by decide +kernel) rfl rfl rfl (by decide +kernel)
set_option maxRecDepth 65536 in
theorem w_c10 : (Jvm.Cond.code ({ cls := "com/example/synclattice/synclattice/sync/StatePairs", name := "addNegatives", desc := "(IJJ)V" } : Jvm.MethodName) prog_101_method_12_code (6 : Nat) (Option.none : Option Jvm.ClassFile.FieldType)).before args0 about1 = true := code_word (m := ⟨2, 5⟩) (meth := k2m5) (c := k2c5) (by decide +kernel) rfl rfl rfl (by decide +kernel)
set_option maxRecDepth 65536 in
theorem w_c11 : (Jvm.Cond.code ({ cls := "java/lang/Math", name := "min", desc := "(JJ)J" } : Jvm.MethodName) jdk_29_method_70_code (4 : Nat) (Option.some Jvm.ClassFile.FieldType.long)).before args0 about1 = true := code_word (m := ⟨3, 3⟩) (meth := k3m3) (c := k3c3) (by decide +kernel) rfl rfl rfl (by decide +kernel)
set_option maxRecDepth 65536 in
theorem w_c12 : (Jvm.Cond.code ({ cls := "com/example/synclattice/synclattice/sync/StatePairs", name := "count", desc := "()I" } : Jvm.MethodName) prog_101_method_8_code (1 : Nat) (Option.some Jvm.ClassFile.FieldType.int)).before args0 about1 = true := code_word (m := ⟨2, 4⟩) (meth := k2m4) (c := k2c4) (by decide +kernel) rfl rfl rfl (by decide +kernel)
def codes1 : List Jvm.Cond := [Jvm.Cond.code x code maxLocals ret, Jvm.Cond.code ({ cls := "com/example/synclattice/synclattice/sync/StatePairs", name := "<init>", desc := "()V" } : Jvm.MethodName) prog_101_method_1_code (1 : Nat) (Option.none : Option Jvm.ClassFile.FieldType), Jvm.Cond.code ({ cls := "java/lang/Object", name := "<init>", desc := "()V" } : Jvm.MethodName) object_method_1_code (1 : Nat) (Option.none : Option Jvm.ClassFile.FieldType), Jvm.Cond.code ({ cls := "com/example/synclattice/synclattice/sync/StatePairs", name := "clear", desc := "(I)V" } : Jvm.MethodName) prog_101_method_2_code (3 : Nat) (Option.none : Option Jvm.ClassFile.FieldType), Jvm.Cond.code ({ cls := "com/example/synclattice/synclattice/sync/StatePairs", name := "fit", desc := "(I)V" } : Jvm.MethodName) prog_101_method_6_code (3 : Nat) (Option.none : Option Jvm.ClassFile.FieldType), Jvm.Cond.code ({ cls := "java/lang/Math", name := "max", desc := "(II)I" } : Jvm.MethodName) jdk_29_method_65_code (2 : Nat) (Option.some Jvm.ClassFile.FieldType.int), Jvm.Cond.code ({ cls := "java/util/Arrays", name := "copyOf", desc := "([JI)[J" } : Jvm.MethodName) jdk_65_method_124_code (3 : Nat) (Option.some (Jvm.ClassFile.FieldType.array Jvm.ClassFile.FieldType.long)), Jvm.Cond.code ({ cls := "java/lang/Math", name := "min", desc := "(II)I" } : Jvm.MethodName) jdk_29_method_69_code (2 : Nat) (Option.some Jvm.ClassFile.FieldType.int), Jvm.Cond.code ({ cls := "java/util/Arrays", name := "copyOf", desc := "([II)[I" } : Jvm.MethodName) jdk_65_method_123_code (3 : Nat) (Option.some (Jvm.ClassFile.FieldType.array Jvm.ClassFile.FieldType.int)), Jvm.Cond.code ({ cls := "com/example/synclattice/synclattice/sync/StatePairs", name := "add", desc := "(II)I" } : Jvm.MethodName) prog_101_method_7_code (3 : Nat) (Option.some Jvm.ClassFile.FieldType.int), Jvm.Cond.code ({ cls := "com/example/synclattice/synclattice/sync/StatePairs", name := "addNegatives", desc := "(IJJ)V" } : Jvm.MethodName) prog_101_method_12_code (6 : Nat) (Option.none : Option Jvm.ClassFile.FieldType), Jvm.Cond.code ({ cls := "java/lang/Math", name := "min", desc := "(JJ)J" } : Jvm.MethodName) jdk_29_method_70_code (4 : Nat) (Option.some Jvm.ClassFile.FieldType.long), Jvm.Cond.code ({ cls := "com/example/synclattice/synclattice/sync/StatePairs", name := "count", desc := "()I" } : Jvm.MethodName) prog_101_method_8_code (1 : Nat) (Option.some Jvm.ClassFile.FieldType.int)]
set_option maxRecDepth 65536 in
theorem codes_eq : words1.filter isCode = codes1 := rfl
theorem w_codes : ∀ c ∈ words1.filter isCode, c.before args0 about1 = true := by
  rw [codes_eq]
  intro c hc
  simp only [codes1, List.mem_cons, List.not_mem_nil, or_false] at hc
  rcases hc with rfl | rfl | rfl | rfl | rfl | rfl | rfl | rfl | rfl | rfl | rfl | rfl | rfl
  · exact w_c0
  · exact w_c1
  · exact w_c2
  · exact w_c3
  · exact w_c4
  · exact w_c5
  · exact w_c6
  · exact w_c7
  · exact w_c8
  · exact w_c9
  · exact w_c10
  · exact w_c11
  · exact w_c12
set_option maxRecDepth 65536 in
theorem w_t1 : (words1.take 24).all (fun c => isCode c || c.before args0 about1) = true := by decide +kernel
set_option maxRecDepth 65536 in
theorem w_t2 : ((words1.drop 24).take 24).all (fun c => isCode c || c.before args0 about1) = true := by decide +kernel
set_option maxRecDepth 65536 in
theorem w_t3 : (((words1.drop 24).drop 24).take 24).all (fun c => isCode c || c.before args0 about1) = true := by decide +kernel
set_option maxRecDepth 65536 in
theorem w_t4 : (((words1.drop 24).drop 24).drop 24).all (fun c => isCode c || c.before args0 about1) = true := by decide +kernel
theorem w_tables : (allAtoms (Jvm.Cond.code x code maxLocals ret :: tables_1)).before args0 about1 = true := by
  rw [allAtoms_all]
  show words1.all (fun c => c.before args0 about1) = true
  refine all_split ?_ w_codes
  rw [← List.take_append_drop 24 words1, List.all_append, w_t1, ← List.take_append_drop 24 (words1.drop 24), List.all_append, w_t2, ← List.take_append_drop 24 ((words1.drop 24).drop 24), List.all_append, w_t3, w_t4]
  rfl
set_option maxRecDepth 65536 in
theorem w_case : (Jvm.Cond.and given_1 narrow_1).before args0 about1 = true := by decide +kernel
theorem w_applies : (headSpec (Jvm.Cond.code x code maxLocals ret :: tables_1) room_1).applies x e0.platform about1 = true :=
  (Spec.applies_iff w_frames).mpr ⟨w_running, w_runnable, w_alone, w_named, w_hears, w_ripe, w_room, w_tables⟩
theorem atStart : AtStart classFile x code maxLocals ret World_1 tables_1 room_1 Calls_1 rest_1 Pre_1 launch0 p0 e0 about1 theMethod args0 below0 :=
  ⟨lists_1, trivial, launch0.admits_env _ _ _, launch0.least_env, fairChoices_fair.cas, fairChoices_fair.clock, w_frames, w_args, w_heap, w_applies, trivial, trivial, w_case⟩
end start1
theorem witness_1 : WitnessClaimed_1 := ⟨start1.p0, start1.e0, start1.about1, start1.theMethod, start1.args0, start1.below0, start1.atStart⟩
end Jvm.Pilot.@@N@@
